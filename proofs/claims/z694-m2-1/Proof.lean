import JvmDerived
import JvmDerived.Pilot.@@N@@Statement
import JvmDerived.Pilot.@@N@@Code
set_option linter.unusedVariables false
set_option linter.unusedSimpArgs false
namespace Jvm.RoadKit
open Sem ClassFile Op Lib Jvm.Stand Jvm.Free Jvm.LawKit
section New
variable {p : Program} {l : Launch} {e : Env} {R : Room} {s : State} {m : MethodId} {args : Array Value} {below : List Frame} {meth : Method} {c : Code} {T : State} {locs : List Loc} {cells slots : Nat}
theorem retI (X : Stand p l e R s m args below meth c T locs cells slots) (hx : p.tables.exec = Jvm.exec) {pc : Nat} {Ls : Array Slot} {z : Int32} {rest : List Value} (hret : meth.sig.returnType = some .int) (hd : decode c.code pc = .ok (.ireturn, 1)) {fs : List Frame}
    (hl : ∀ (f : JFrame) (acts : List Action), f.method = m → f.locked = none → f.entered = [] → (doReturn e (T.setTop f) acts (some (.int z))).1 = T.setFrames fs) : Steps p.tables e below (T.setTop (mkF m pc Ls (.int z :: rest))) (T.setFrames fs) := by
  have hm' : T.vm.method? m = some meth := X.method'
  have hn : narrow .int (.int z) = .int z := rfl
  show Steps p.tables e below (T.setTop { method := m, pc := pc, locals := Ls, stack := _ :: rest, locked := none }) _
  jvm_step X.here [X.here.top, hx, hd, hm', hret, hn]
  first | (intro acts; rw [hl _ acts rfl rfl rfl]) | rw [hl _ _ rfl rfl rfl]
  exact Steps.refl _
end New
end Jvm.RoadKit
namespace Jvm.Pilot.@@N@@
open Jvm Jvm.ClassFile Sem Op Lib Jvm.Free Jvm.Stand Jvm.LawKit Jvm.RoadKit Bundle Jvm.Pilot.@@N@@.Jvm.D
theorem d2_0 : decode method_2_code 0 = .ok (.iload_n 0, 1) := by decide +kernel
theorem d2_1 : decode method_2_code 1 = .ok (.iload_n 1, 1) := by decide +kernel
theorem d2_2 : decode method_2_code 2 = .ok (.iushr, 1) := by decide +kernel
theorem d2_3 : decode method_2_code 3 = .ok (.iconst 1, 1) := by decide +kernel
theorem d2_4 : decode method_2_code 4 = .ok (.iand, 1) := by decide +kernel
theorem d2_5 : decode method_2_code 5 = .ok (.ifCond .eq 7, 3) := by decide +kernel
theorem d2_8 : decode method_2_code 8 = .ok (.iconst 1, 1) := by decide +kernel
theorem d2_9 : decode method_2_code 9 = .ok (.goto 4, 3) := by decide +kernel
theorem d2_12 : decode method_2_code 12 = .ok (.iconst 0, 1) := by decide +kernel
theorem d2_13 : decode method_2_code 13 = .ok (.ireturn, 1) := by decide +kernel
theorem pn2 : plainName "com/example/braided_tour/braidedtour/choice/LogitAnyAvailablePinLaw" = true := by first | (simp [plainName, overriddenIn]; done) | decide +kernel
theorem ef2 (m : MethodId) (p1 : Int32) (p2 : Int32) : entryFrame m #[(.int p1), (.int p2)] 2 = mkF m 0 #[.val (.int p1), .val (.int p2)] [] := by first | (simp [entryFrame, mkF, argsToLocals, Value.category]; done) | rfl
def own_bit (p1 : Int32) (p2 : Int32) : Int32 := (if (((p1.toUInt32 >>> (p2 &&& 31).toUInt32).toInt32) &&& (1 : Int32)) = (0 : Int32) then (0 : Int32) else (1 : Int32))
def Q2 (Z : State) (p1 : Int32) (p2 : Int32) (h0 : Heap) (n0 : Nat) (v : Option Value) (h : Heap) (L : List Loc) : Prop := v = some (.int (own_bit p1 p2)) ∧ Fr n0 L ∧ h = h0
set_option maxRecDepth 65536 in
set_option maxHeartbeats 40000000 in
theorem rm2 (l : Launch) (Z : State) (a0 : Array Value) (hw : ∀ d ∈ tables_1, d.before a0 Z = true) (ws : List Jvm.Cond) (p1 : Int32) (p2 : Int32) (h0 : Heap) (n0 : Nat) (Z0 : n0 ≤ h0.size) :
    MetFree l (⟨"com/example/braided_tour/braidedtour/choice/LogitAnyAvailablePinLaw", "bit", "(II)Z"⟩ : MethodName) (head1 (Jvm.Cond.code (⟨"com/example/braided_tour/braidedtour/choice/LogitAnyAvailablePinLaw", "bit", "(II)Z"⟩ : MethodName) method_2_code 2 (some .boolean) :: ws) ({ frames := 0, cells := 0, slots := 0, locals := 0 } : Room)) (fun a U => a = #[(.int p1), (.int p2)] ∧ Z.Warmed39 U.vm ∧ U.heap = h0) (fun _ _ _ _ _ => True) (fun _ U o U' => ∃ v L, o = .returned v ∧ Q2 Z p1 p2 h0 n0 v U'.heap L ∧ FrameEnd U o U' L ({ frames := 0, cells := 0, slots := 0, locals := 0 } : Room).cells ({ frames := 0, cells := 0, slots := 0, locals := 0 } : Room).slots) := by
  refine MetFree.of_bodySF (plainFor_of_name pn2) hisR ?_
  intro p e s m args below meth c s₁ Bd hml0 hP hK
  obtain ⟨rfl, hZ, hh⟩ := hP
  have hx := Bd.exec
  have hby := Bd.bytes
  have hml : c.maxLocals = 2 := hml0
  have hown : s.vm.findClass "com/example/braided_tour/braidedtour/choice/LogitAnyAvailablePinLaw" = some m.cls := findClass_of_methodNamed Bd.named
  have hnm := (name_of_methodNamed Bd.named Bd.method).1
  have X0 : Stand p l e ({ frames := 0, cells := 0, slots := 0, locals := 0 } : Room) s m #[(.int p1), (.int p2)] below meth c s₁ [] 0 0 := Stand.of_body Bd
  have e0 : s₁.heap = h0 := by rw [← hh, Bd.state]; rfl
  have N0 := Fr.nil n0
  have pre0 : ∀ t, Steps p.tables e below (s₁.setTop (mkF m 0 #[.val (.int p1), .val (.int p2)] [])) t → Steps p.tables e below (s₁.setTop (entryFrame m #[(.int p1), (.int p2)] 2)) t := fun t k => castTop (ef2 m p1 p2) k
  have c1 : ∀ t, Steps p.tables e below (s₁.setTop (mkF m 5 #[.val (.int p1), .val (.int p2)] [(.int (((p1.toUInt32 >>> (p2 &&& 31).toUInt32).toInt32) &&& (1 : Int32)))])) t → Steps p.tables e below (s₁.setTop (entryFrame m #[(.int p1), (.int p2)] 2)) t := fun t kt => by
    refine pre0 _ ?_
    show Steps p.tables e below (s₁.setTop (mkF m 0 #[.val (.int p1), .val (.int p2)] [])) _
    refine XS.iloadN X0.here hx rfl (hb hby d2_0) rfl ?_
    show Steps p.tables e below (s₁.setTop (mkF m 1 #[.val (.int p1), .val (.int p2)] [(.int p1)])) _
    refine XS.iloadN X0.here hx rfl (hb hby d2_1) rfl ?_
    show Steps p.tables e below (s₁.setTop (mkF m 2 #[.val (.int p1), .val (.int p2)] [(.int p2), (.int p1)])) _
    refine XS.iushr X0.here hx rfl (hb hby d2_2) rfl ?_
    show Steps p.tables e below (s₁.setTop (mkF m 3 #[.val (.int p1), .val (.int p2)] [(.int ((p1.toUInt32 >>> (p2 &&& 31).toUInt32).toInt32))])) _
    refine XS.iconst X0.here hx rfl (hb hby d2_3) ?_
    show Steps p.tables e below (s₁.setTop (mkF m 4 #[.val (.int p1), .val (.int p2)] [(.int (1 : Int32)), (.int ((p1.toUInt32 >>> (p2 &&& 31).toUInt32).toInt32))])) _
    refine XS.iand X0.here hx rfl (hb hby d2_4) rfl ?_
    exact kt
  by_cases hc5 : (((p1.toUInt32 >>> (p2 &&& 31).toUInt32).toInt32) &&& (1 : Int32)) = (0 : Int32)
  · obtain ⟨fs, hr, hrun, hended, hW, hsame⟩ := X0.leave (v := some (.int (0 : Int32))) (fun h => by rw [Bd.returns] at h; cases h)
    refine ⟨_, _, c1 _ ?_, hrun, hended, _, _, rfl, ?_, ⟨_, rfl⟩, hW, hsame.mono (by decide) (by decide)⟩
    · show Steps p.tables e below (s₁.setTop (mkF m 5 #[.val (.int p1), .val (.int p2)] [(.int (((p1.toUInt32 >>> (p2 &&& 31).toUInt32).toInt32) &&& (1 : Int32)))])) _
      refine XS.ifYes X0.here hx rfl (pc0 := 5) (pc' := 12) rfl (hb hby d2_5) rfl ((if0 _ _).trans (teq hc5).1) (by decide) (by decide) ?_
      show Steps p.tables e below (s₁.setTop (mkF m 12 #[.val (.int p1), .val (.int p2)] [])) _
      refine XS.iconst X0.here hx rfl (hb hby d2_12) ?_
      show Steps p.tables e below (s₁.setTop (mkF m 13 #[.val (.int p1), .val (.int p2)] [(.int (0 : Int32))])) _
      exact retN X0 hx (t := .boolean) Bd.returns (by simp) (hb hby d2_13) hr
    · show Q2 Z p1 p2 h0 n0 _ s₁.heap _
      rw [e0]
      have hv : (own_bit p1 p2) = (0 : Int32) := by unfold own_bit; rw [if_pos hc5]
      exact ⟨by rw [hv], N0, rfl⟩
  · obtain ⟨fs, hr, hrun, hended, hW, hsame⟩ := X0.leave (v := some (.int (1 : Int32))) (fun h => by rw [Bd.returns] at h; cases h)
    refine ⟨_, _, c1 _ ?_, hrun, hended, _, _, rfl, ?_, ⟨_, rfl⟩, hW, hsame.mono (by decide) (by decide)⟩
    · show Steps p.tables e below (s₁.setTop (mkF m 5 #[.val (.int p1), .val (.int p2)] [(.int (((p1.toUInt32 >>> (p2 &&& 31).toUInt32).toInt32) &&& (1 : Int32)))])) _
      refine XS.ifNo X0.here hx rfl (hb hby d2_5) rfl ((if0 _ _).trans (feq hc5).1) ?_
      show Steps p.tables e below (s₁.setTop (mkF m 8 #[.val (.int p1), .val (.int p2)] [])) _
      refine XS.iconst X0.here hx rfl (hb hby d2_8) ?_
      show Steps p.tables e below (s₁.setTop (mkF m 9 #[.val (.int p1), .val (.int p2)] [(.int (1 : Int32))])) _
      refine XS.goto X0.here hx rfl (pc0 := 9) (pc' := 13) rfl (hb hby d2_9) (by decide) (by decide) ?_
      show Steps p.tables e below (s₁.setTop (mkF m 13 #[.val (.int p1), .val (.int p2)] [(.int (1 : Int32))])) _
      exact retN X0 hx (t := .boolean) Bd.returns (by simp) (hb hby d2_13) hr
    · show Q2 Z p1 p2 h0 n0 _ s₁.heap _
      rw [e0]
      have hv : (own_bit p1 p2) = (1 : Int32) := by unfold own_bit; rw [if_neg hc5]
      exact ⟨by rw [hv], N0, rfl⟩
theorem d1_0 : decode prog_7_method_3_code 0 = .ok (.iconst 0, 1) := by decide +kernel
theorem d1_1 : decode prog_7_method_3_code 1 = .ok (.istore_n 1, 1) := by decide +kernel
theorem d1_2 : decode prog_7_method_3_code 2 = .ok (.aload_n 0, 1) := by decide +kernel
theorem d1_3 : decode prog_7_method_3_code 3 = .ok (.astore_n 2, 1) := by decide +kernel
theorem d1_4 : decode prog_7_method_3_code 4 = .ok (.aload_n 2, 1) := by decide +kernel
theorem d1_5 : decode prog_7_method_3_code 5 = .ok (.arraylength, 1) := by decide +kernel
theorem d1_6 : decode prog_7_method_3_code 6 = .ok (.istore_n 3, 1) := by decide +kernel
theorem d1_7 : decode prog_7_method_3_code 7 = .ok (.iconst 0, 1) := by decide +kernel
theorem d1_8 : decode prog_7_method_3_code 8 = .ok (.istore 4, 2) := by decide +kernel
theorem d1_10 : decode prog_7_method_3_code 10 = .ok (.iload 4, 2) := by decide +kernel
theorem d1_12 : decode prog_7_method_3_code 12 = .ok (.iload_n 3, 1) := by decide +kernel
theorem d1_13 : decode prog_7_method_3_code 13 = .ok (.if_icmp .ge 20, 3) := by decide +kernel
theorem d1_33 : decode prog_7_method_3_code 33 = .ok (.iload_n 1, 1) := by decide +kernel
theorem d1_34 : decode prog_7_method_3_code 34 = .ok (.ireturn, 1) := by decide +kernel
theorem pn1n0 : plainName "com/example/braided_tour/braidedtour/choice/Logit" = true := by first | (simp [plainName, overriddenIn]; done) | decide +kernel
theorem ef1n0 (m : MethodId) (a1 : Addr) : entryFrame m #[(.ref a1)] 6 = mkF m 0 #[.val (.ref a1), .unset, .unset, .unset, .unset, .unset] [] := by first | (simp [entryFrame, mkF, argsToLocals, Value.category]; done) | rfl
def Q1n0 (Z : State) (a1 : Addr) (kk : ClassId) (h0 : Heap) (n0 : Nat) (v : Option Value) (h : Heap) (L : List Loc) : Prop := v = some (.int (0 : Int32)) ∧ Fr n0 L ∧ h = h0
set_option maxRecDepth 65536 in
set_option maxHeartbeats 40000000 in
theorem rm1n0 (l : Launch) (Z : State) (a0 : Array Value) (hw : ∀ d ∈ tables_1, d.before a0 Z = true) (ws : List Jvm.Cond) (a1 : Addr) (kk : ClassId) (h0 : Heap) (n0 : Nat) (Z0 : n0 ≤ h0.size) (V0 : Arv Z h0 a1 kk .boolean (0 : Int32) [] (.int (0 : Int32))) :
    MetFree l (⟨"com/example/braided_tour/braidedtour/choice/Logit", "anyAvailable", "([Z)Z"⟩ : MethodName) (head1 (Jvm.Cond.code (⟨"com/example/braided_tour/braidedtour/choice/Logit", "anyAvailable", "([Z)Z"⟩ : MethodName) prog_7_method_3_code 6 (some .boolean) :: ws) ({ frames := 0, cells := 0, slots := 0, locals := 0 } : Room)) (fun a U => a = #[(.ref a1)] ∧ Z.Warmed39 U.vm ∧ U.heap = h0) (fun _ _ _ _ _ => True) (fun _ U o U' => ∃ v L, o = .returned v ∧ Q1n0 Z a1 kk h0 n0 v U'.heap L ∧ FrameEnd U o U' L ({ frames := 0, cells := 0, slots := 0, locals := 0 } : Room).cells ({ frames := 0, cells := 0, slots := 0, locals := 0 } : Room).slots) := by
  refine MetFree.of_bodySF (plainFor_of_name pn1n0) hisR ?_
  intro p e s m args below meth c s₁ Bd hml0 hP hK
  obtain ⟨rfl, hZ, hh⟩ := hP
  have hx := Bd.exec
  have hby := Bd.bytes
  have hml : c.maxLocals = 6 := hml0
  have hown : s.vm.findClass "com/example/braided_tour/braidedtour/choice/Logit" = some m.cls := findClass_of_methodNamed Bd.named
  have hnm := (name_of_methodNamed Bd.named Bd.method).1
  have X0 : Stand p l e ({ frames := 0, cells := 0, slots := 0, locals := 0 } : Room) s m #[(.ref a1)] below meth c s₁ [] 0 0 := Stand.of_body Bd
  have e0 : s₁.heap = h0 := by rw [← hh, Bd.state]; rfl
  have N0 := Fr.nil n0
  have pre0 : ∀ t, Steps p.tables e below (s₁.setTop (mkF m 0 #[.val (.ref a1), .unset, .unset, .unset, .unset, .unset] [])) t → Steps p.tables e below (s₁.setTop (entryFrame m #[(.ref a1)] 6)) t := fun t k => castTop (ef1n0 m a1) k
  have cp5_1 := V0
  obtain ⟨cl5_1, Ar5_1, -, Sa5_1, Na5_1, -, -⟩ := cp5_1
  obtain ⟨fs, hr, hrun, hended, hW, hsame⟩ := X0.leave (v := some (.int (0 : Int32))) (fun h => by rw [Bd.returns] at h; cases h)
  refine ⟨_, _, pre0 _ ?_, hrun, hended, _, _, rfl, ?_, ⟨_, rfl⟩, hW, hsame.mono (by decide) (by decide)⟩
  · show Steps p.tables e below (s₁.setTop (mkF m 0 #[.val (.ref a1), .unset, .unset, .unset, .unset, .unset] [])) _
    refine XS.iconst X0.here hx rfl (hb hby d1_0) ?_
    show Steps p.tables e below (s₁.setTop (mkF m 1 #[.val (.ref a1), .unset, .unset, .unset, .unset, .unset] [(.int (0 : Int32))])) _
    refine XS.istoreN X0.here hx rfl (hb hby d1_1) rfl (l' := #[.val (.ref a1), .val (.int (0 : Int32)), .unset, .unset, .unset, .unset]) rfl ?_
    show Steps p.tables e below (s₁.setTop (mkF m 2 #[.val (.ref a1), .val (.int (0 : Int32)), .unset, .unset, .unset, .unset] [])) _
    refine XS.aloadN X0.here hx rfl (hb hby d1_2) rfl rfl ?_
    show Steps p.tables e below (s₁.setTop (mkF m 3 #[.val (.ref a1), .val (.int (0 : Int32)), .unset, .unset, .unset, .unset] [(.ref a1)])) _
    refine XS.astoreN X0.here hx rfl (hb hby d1_3) rfl rfl (l' := #[.val (.ref a1), .val (.int (0 : Int32)), .val (.ref a1), .unset, .unset, .unset]) rfl ?_
    show Steps p.tables e below (s₁.setTop (mkF m 4 #[.val (.ref a1), .val (.int (0 : Int32)), .val (.ref a1), .unset, .unset, .unset] [])) _
    refine XS.aloadN X0.here hx rfl (hb hby d1_4) rfl rfl ?_
    show Steps p.tables e below (s₁.setTop (mkF m 5 #[.val (.ref a1), .val (.int (0 : Int32)), .val (.ref a1), .unset, .unset, .unset] [(.ref a1)])) _
    refine X0.arraylength hx (by first | exact Ar5_1.1 | (rw [e0]; exact Ar5_1.1)) (State.isArrayOf_alike hZ.alike Ar5_1.2.1) (g := (mkF m 5 #[.val (.ref a1), .val (.int (0 : Int32)), .val (.ref a1), .unset, .unset, .unset] [(.ref a1)])) rfl rfl (hb hby d1_5) _ ?_
    rw [len_of Sa5_1 Na5_1]
    show Steps p.tables e below (s₁.setTop (mkF m 6 #[.val (.ref a1), .val (.int (0 : Int32)), .val (.ref a1), .unset, .unset, .unset] [(.int (0 : Int32))])) _
    refine XS.istoreN X0.here hx rfl (hb hby d1_6) rfl (l' := #[.val (.ref a1), .val (.int (0 : Int32)), .val (.ref a1), .val (.int (0 : Int32)), .unset, .unset]) rfl ?_
    show Steps p.tables e below (s₁.setTop (mkF m 7 #[.val (.ref a1), .val (.int (0 : Int32)), .val (.ref a1), .val (.int (0 : Int32)), .unset, .unset] [])) _
    refine XS.iconst X0.here hx rfl (hb hby d1_7) ?_
    show Steps p.tables e below (s₁.setTop (mkF m 8 #[.val (.ref a1), .val (.int (0 : Int32)), .val (.ref a1), .val (.int (0 : Int32)), .unset, .unset] [(.int (0 : Int32))])) _
    refine XS.istore X0.here hx rfl (hb hby d1_8) rfl (l' := #[.val (.ref a1), .val (.int (0 : Int32)), .val (.ref a1), .val (.int (0 : Int32)), .val (.int (0 : Int32)), .unset]) rfl ?_
    show Steps p.tables e below (s₁.setTop (mkF m 10 #[.val (.ref a1), .val (.int (0 : Int32)), .val (.ref a1), .val (.int (0 : Int32)), .val (.int (0 : Int32)), .unset] [])) _
    refine XS.iload X0.here hx rfl (hb hby d1_10) rfl ?_
    show Steps p.tables e below (s₁.setTop (mkF m 12 #[.val (.ref a1), .val (.int (0 : Int32)), .val (.ref a1), .val (.int (0 : Int32)), .val (.int (0 : Int32)), .unset] [(.int (0 : Int32))])) _
    refine XS.iloadN X0.here hx rfl (hb hby d1_12) rfl ?_
    show Steps p.tables e below (s₁.setTop (mkF m 13 #[.val (.ref a1), .val (.int (0 : Int32)), .val (.ref a1), .val (.int (0 : Int32)), .val (.int (0 : Int32)), .unset] [(.int (0 : Int32)), (.int (0 : Int32))])) _
    refine XS.icmpYes X0.here hx rfl (pc0 := 13) (pc' := 33) rfl (hb hby d1_13) rfl (flt (by decide)).2.1 (by decide) (by decide) ?_
    show Steps p.tables e below (s₁.setTop (mkF m 33 #[.val (.ref a1), .val (.int (0 : Int32)), .val (.ref a1), .val (.int (0 : Int32)), .val (.int (0 : Int32)), .unset] [])) _
    refine XS.iloadN X0.here hx rfl (hb hby d1_33) rfl ?_
    show Steps p.tables e below (s₁.setTop (mkF m 34 #[.val (.ref a1), .val (.int (0 : Int32)), .val (.ref a1), .val (.int (0 : Int32)), .val (.int (0 : Int32)), .unset] [(.int (0 : Int32))])) _
    exact retN X0 hx (t := .boolean) Bd.returns (by simp) (hb hby d1_34) hr
  · show Q1n0 Z a1 kk h0 n0 _ s₁.heap _
    rw [e0]
    exact ⟨rfl, N0, rfl⟩
theorem d1_16 : decode prog_7_method_3_code 16 = .ok (.aload_n 2, 1) := by decide +kernel
theorem d1_17 : decode prog_7_method_3_code 17 = .ok (.iload 4, 2) := by decide +kernel
theorem d1_19 : decode prog_7_method_3_code 19 = .ok (.baload, 1) := by decide +kernel
theorem d1_20 : decode prog_7_method_3_code 20 = .ok (.istore 5, 2) := by decide +kernel
theorem d1_22 : decode prog_7_method_3_code 22 = .ok (.iload_n 1, 1) := by decide +kernel
theorem d1_23 : decode prog_7_method_3_code 23 = .ok (.iload 5, 2) := by decide +kernel
theorem d1_25 : decode prog_7_method_3_code 25 = .ok (.ior, 1) := by decide +kernel
theorem d1_26 : decode prog_7_method_3_code 26 = .ok (.istore_n 1, 1) := by decide +kernel
theorem d1_27 : decode prog_7_method_3_code 27 = .ok (.iinc 4 1, 3) := by decide +kernel
theorem d1_30 : decode prog_7_method_3_code 30 = .ok (.goto (-20), 3) := by decide +kernel
theorem pn1n1 : plainName "com/example/braided_tour/braidedtour/choice/Logit" = true := by first | (simp [plainName, overriddenIn]; done) | decide +kernel
theorem ef1n1 (m : MethodId) (a1 : Addr) : entryFrame m #[(.ref a1)] 6 = mkF m 0 #[.val (.ref a1), .unset, .unset, .unset, .unset, .unset] [] := by first | (simp [entryFrame, mkF, argsToLocals, Value.category]; done) | rfl
def own_any1 (x0 : Int32) : Int32 := (nar .boolean ((0 : Int32) ||| x0))
def Q1n1 (Z : State) (a1 : Addr) (kk : ClassId) (x0 : Int32) (h0 : Heap) (n0 : Nat) (v : Option Value) (h : Heap) (L : List Loc) : Prop := v = some (.int (own_any1 x0)) ∧ Fr n0 L ∧ h = h0
set_option maxRecDepth 65536 in
set_option maxHeartbeats 40000000 in
theorem rm1n1 (l : Launch) (Z : State) (a0 : Array Value) (hw : ∀ d ∈ tables_1, d.before a0 Z = true) (ws : List Jvm.Cond) (a1 : Addr) (kk : ClassId) (x0 : Int32) (h0 : Heap) (n0 : Nat) (Z0 : n0 ≤ h0.size) (V0 : Arv Z h0 a1 kk .boolean (1 : Int32) [(.int x0)] (.int (0 : Int32))) :
    MetFree l (⟨"com/example/braided_tour/braidedtour/choice/Logit", "anyAvailable", "([Z)Z"⟩ : MethodName) (head1 (Jvm.Cond.code (⟨"com/example/braided_tour/braidedtour/choice/Logit", "anyAvailable", "([Z)Z"⟩ : MethodName) prog_7_method_3_code 6 (some .boolean) :: ws) ({ frames := 0, cells := 0, slots := 0, locals := 0 } : Room)) (fun a U => a = #[(.ref a1)] ∧ Z.Warmed39 U.vm ∧ U.heap = h0) (fun _ _ _ _ _ => True) (fun _ U o U' => ∃ v L, o = .returned v ∧ Q1n1 Z a1 kk x0 h0 n0 v U'.heap L ∧ FrameEnd U o U' L ({ frames := 0, cells := 0, slots := 0, locals := 0 } : Room).cells ({ frames := 0, cells := 0, slots := 0, locals := 0 } : Room).slots) := by
  refine MetFree.of_bodySF (plainFor_of_name pn1n1) hisR ?_
  intro p e s m args below meth c s₁ Bd hml0 hP hK
  obtain ⟨rfl, hZ, hh⟩ := hP
  have hx := Bd.exec
  have hby := Bd.bytes
  have hml : c.maxLocals = 6 := hml0
  have hown : s.vm.findClass "com/example/braided_tour/braidedtour/choice/Logit" = some m.cls := findClass_of_methodNamed Bd.named
  have hnm := (name_of_methodNamed Bd.named Bd.method).1
  have X0 : Stand p l e ({ frames := 0, cells := 0, slots := 0, locals := 0 } : Room) s m #[(.ref a1)] below meth c s₁ [] 0 0 := Stand.of_body Bd
  have e0 : s₁.heap = h0 := by rw [← hh, Bd.state]; rfl
  have N0 := Fr.nil n0
  have pre0 : ∀ t, Steps p.tables e below (s₁.setTop (mkF m 0 #[.val (.ref a1), .unset, .unset, .unset, .unset, .unset] [])) t → Steps p.tables e below (s₁.setTop (entryFrame m #[(.ref a1)] 6)) t := fun t k => castTop (ef1n1 m a1) k
  have cp5_1 := V0
  obtain ⟨cl5_1, Ar5_1, -, Sa5_1, Na5_1, -, -⟩ := cp5_1
  have cp19_2 := V0
  obtain ⟨cl19_2, Ar19_2, -, Sa19_2, Na19_2, Ha19_2, -⟩ := cp19_2
  have hin19_2 : ¬ ((0 : Int32) < 0 ∨ cl19_2.slots.size ≤ ((0 : Int32)).toNatClampNeg) := inb_of Sa19_2 ⟨by decide, by decide⟩
  have hat19_2 : cl19_2.slots[((0 : Int32)).toNatClampNeg]? = some (.int x0) := Ha19_2.at hin19_2 rfl
  obtain ⟨fs, hr, hrun, hended, hW, hsame⟩ := X0.leave (v := some (.int (nar .boolean ((0 : Int32) ||| x0)))) (fun h => by rw [Bd.returns] at h; cases h)
  refine ⟨_, _, pre0 _ ?_, hrun, hended, _, _, rfl, ?_, ⟨_, rfl⟩, hW, hsame.mono (by decide) (by decide)⟩
  · show Steps p.tables e below (s₁.setTop (mkF m 0 #[.val (.ref a1), .unset, .unset, .unset, .unset, .unset] [])) _
    refine XS.iconst X0.here hx rfl (hb hby d1_0) ?_
    show Steps p.tables e below (s₁.setTop (mkF m 1 #[.val (.ref a1), .unset, .unset, .unset, .unset, .unset] [(.int (0 : Int32))])) _
    refine XS.istoreN X0.here hx rfl (hb hby d1_1) rfl (l' := #[.val (.ref a1), .val (.int (0 : Int32)), .unset, .unset, .unset, .unset]) rfl ?_
    show Steps p.tables e below (s₁.setTop (mkF m 2 #[.val (.ref a1), .val (.int (0 : Int32)), .unset, .unset, .unset, .unset] [])) _
    refine XS.aloadN X0.here hx rfl (hb hby d1_2) rfl rfl ?_
    show Steps p.tables e below (s₁.setTop (mkF m 3 #[.val (.ref a1), .val (.int (0 : Int32)), .unset, .unset, .unset, .unset] [(.ref a1)])) _
    refine XS.astoreN X0.here hx rfl (hb hby d1_3) rfl rfl (l' := #[.val (.ref a1), .val (.int (0 : Int32)), .val (.ref a1), .unset, .unset, .unset]) rfl ?_
    show Steps p.tables e below (s₁.setTop (mkF m 4 #[.val (.ref a1), .val (.int (0 : Int32)), .val (.ref a1), .unset, .unset, .unset] [])) _
    refine XS.aloadN X0.here hx rfl (hb hby d1_4) rfl rfl ?_
    show Steps p.tables e below (s₁.setTop (mkF m 5 #[.val (.ref a1), .val (.int (0 : Int32)), .val (.ref a1), .unset, .unset, .unset] [(.ref a1)])) _
    refine X0.arraylength hx (by first | exact Ar5_1.1 | (rw [e0]; exact Ar5_1.1)) (State.isArrayOf_alike hZ.alike Ar5_1.2.1) (g := (mkF m 5 #[.val (.ref a1), .val (.int (0 : Int32)), .val (.ref a1), .unset, .unset, .unset] [(.ref a1)])) rfl rfl (hb hby d1_5) _ ?_
    rw [len_of Sa5_1 Na5_1]
    show Steps p.tables e below (s₁.setTop (mkF m 6 #[.val (.ref a1), .val (.int (0 : Int32)), .val (.ref a1), .unset, .unset, .unset] [(.int (1 : Int32))])) _
    refine XS.istoreN X0.here hx rfl (hb hby d1_6) rfl (l' := #[.val (.ref a1), .val (.int (0 : Int32)), .val (.ref a1), .val (.int (1 : Int32)), .unset, .unset]) rfl ?_
    show Steps p.tables e below (s₁.setTop (mkF m 7 #[.val (.ref a1), .val (.int (0 : Int32)), .val (.ref a1), .val (.int (1 : Int32)), .unset, .unset] [])) _
    refine XS.iconst X0.here hx rfl (hb hby d1_7) ?_
    show Steps p.tables e below (s₁.setTop (mkF m 8 #[.val (.ref a1), .val (.int (0 : Int32)), .val (.ref a1), .val (.int (1 : Int32)), .unset, .unset] [(.int (0 : Int32))])) _
    refine XS.istore X0.here hx rfl (hb hby d1_8) rfl (l' := #[.val (.ref a1), .val (.int (0 : Int32)), .val (.ref a1), .val (.int (1 : Int32)), .val (.int (0 : Int32)), .unset]) rfl ?_
    show Steps p.tables e below (s₁.setTop (mkF m 10 #[.val (.ref a1), .val (.int (0 : Int32)), .val (.ref a1), .val (.int (1 : Int32)), .val (.int (0 : Int32)), .unset] [])) _
    refine XS.iload X0.here hx rfl (hb hby d1_10) rfl ?_
    show Steps p.tables e below (s₁.setTop (mkF m 12 #[.val (.ref a1), .val (.int (0 : Int32)), .val (.ref a1), .val (.int (1 : Int32)), .val (.int (0 : Int32)), .unset] [(.int (0 : Int32))])) _
    refine XS.iloadN X0.here hx rfl (hb hby d1_12) rfl ?_
    show Steps p.tables e below (s₁.setTop (mkF m 13 #[.val (.ref a1), .val (.int (0 : Int32)), .val (.ref a1), .val (.int (1 : Int32)), .val (.int (0 : Int32)), .unset] [(.int (1 : Int32)), (.int (0 : Int32))])) _
    refine XS.icmpNo X0.here hx rfl (hb hby d1_13) rfl (tlt (by decide)).2.1 ?_
    show Steps p.tables e below (s₁.setTop (mkF m 16 #[.val (.ref a1), .val (.int (0 : Int32)), .val (.ref a1), .val (.int (1 : Int32)), .val (.int (0 : Int32)), .unset] [])) _
    refine XS.aloadN X0.here hx rfl (hb hby d1_16) rfl rfl ?_
    show Steps p.tables e below (s₁.setTop (mkF m 17 #[.val (.ref a1), .val (.int (0 : Int32)), .val (.ref a1), .val (.int (1 : Int32)), .val (.int (0 : Int32)), .unset] [(.ref a1)])) _
    refine XS.iload X0.here hx rfl (hb hby d1_17) rfl ?_
    show Steps p.tables e below (s₁.setTop (mkF m 19 #[.val (.ref a1), .val (.int (0 : Int32)), .val (.ref a1), .val (.int (1 : Int32)), .val (.int (0 : Int32)), .unset] [(.int (0 : Int32)), (.ref a1)])) _
    refine X0.baloadBooleans hx (j := (0 : Int32)) (v := (.int x0)) (by first | exact Ar19_2.1 | (rw [e0]; exact Ar19_2.1)) (State.isArrayOf_alike hZ.alike Ar19_2.2.1) Ar19_2.2.2 hin19_2 hat19_2 (g := (mkF m 19 #[.val (.ref a1), .val (.int (0 : Int32)), .val (.ref a1), .val (.int (1 : Int32)), .val (.int (0 : Int32)), .unset] [(.int (0 : Int32)), (.ref a1)])) rfl rfl (hb hby d1_19) _ ?_
    show Steps p.tables e below (s₁.setTop (mkF m 20 #[.val (.ref a1), .val (.int (0 : Int32)), .val (.ref a1), .val (.int (1 : Int32)), .val (.int (0 : Int32)), .unset] [(.int x0)])) _
    refine XS.istore X0.here hx rfl (hb hby d1_20) rfl (l' := #[.val (.ref a1), .val (.int (0 : Int32)), .val (.ref a1), .val (.int (1 : Int32)), .val (.int (0 : Int32)), .val (.int x0)]) rfl ?_
    show Steps p.tables e below (s₁.setTop (mkF m 22 #[.val (.ref a1), .val (.int (0 : Int32)), .val (.ref a1), .val (.int (1 : Int32)), .val (.int (0 : Int32)), .val (.int x0)] [])) _
    refine XS.iloadN X0.here hx rfl (hb hby d1_22) rfl ?_
    show Steps p.tables e below (s₁.setTop (mkF m 23 #[.val (.ref a1), .val (.int (0 : Int32)), .val (.ref a1), .val (.int (1 : Int32)), .val (.int (0 : Int32)), .val (.int x0)] [(.int (0 : Int32))])) _
    refine XS.iload X0.here hx rfl (hb hby d1_23) rfl ?_
    show Steps p.tables e below (s₁.setTop (mkF m 25 #[.val (.ref a1), .val (.int (0 : Int32)), .val (.ref a1), .val (.int (1 : Int32)), .val (.int (0 : Int32)), .val (.int x0)] [(.int x0), (.int (0 : Int32))])) _
    refine XS.ior X0.here hx rfl (hb hby d1_25) rfl ?_
    show Steps p.tables e below (s₁.setTop (mkF m 26 #[.val (.ref a1), .val (.int (0 : Int32)), .val (.ref a1), .val (.int (1 : Int32)), .val (.int (0 : Int32)), .val (.int x0)] [(.int ((0 : Int32) ||| x0))])) _
    refine XS.istoreN X0.here hx rfl (hb hby d1_26) rfl (l' := #[.val (.ref a1), .val (.int ((0 : Int32) ||| x0)), .val (.ref a1), .val (.int (1 : Int32)), .val (.int (0 : Int32)), .val (.int x0)]) rfl ?_
    show Steps p.tables e below (s₁.setTop (mkF m 27 #[.val (.ref a1), .val (.int ((0 : Int32) ||| x0)), .val (.ref a1), .val (.int (1 : Int32)), .val (.int (0 : Int32)), .val (.int x0)] [])) _
    refine XS.iinc X0.here hx rfl (hb hby d1_27) rfl (l' := #[.val (.ref a1), .val (.int ((0 : Int32) ||| x0)), .val (.ref a1), .val (.int (1 : Int32)), .val (.int (1 : Int32)), .val (.int x0)]) rfl ?_
    show Steps p.tables e below (s₁.setTop (mkF m 30 #[.val (.ref a1), .val (.int ((0 : Int32) ||| x0)), .val (.ref a1), .val (.int (1 : Int32)), .val (.int (1 : Int32)), .val (.int x0)] [])) _
    refine XS.goto X0.here hx rfl (pc0 := 30) (pc' := 10) rfl (hb hby d1_30) (by decide) (by decide) ?_
    show Steps p.tables e below (s₁.setTop (mkF m 10 #[.val (.ref a1), .val (.int ((0 : Int32) ||| x0)), .val (.ref a1), .val (.int (1 : Int32)), .val (.int (1 : Int32)), .val (.int x0)] [])) _
    refine XS.iload X0.here hx rfl (hb hby d1_10) rfl ?_
    show Steps p.tables e below (s₁.setTop (mkF m 12 #[.val (.ref a1), .val (.int ((0 : Int32) ||| x0)), .val (.ref a1), .val (.int (1 : Int32)), .val (.int (1 : Int32)), .val (.int x0)] [(.int (1 : Int32))])) _
    refine XS.iloadN X0.here hx rfl (hb hby d1_12) rfl ?_
    show Steps p.tables e below (s₁.setTop (mkF m 13 #[.val (.ref a1), .val (.int ((0 : Int32) ||| x0)), .val (.ref a1), .val (.int (1 : Int32)), .val (.int (1 : Int32)), .val (.int x0)] [(.int (1 : Int32)), (.int (1 : Int32))])) _
    refine XS.icmpYes X0.here hx rfl (pc0 := 13) (pc' := 33) rfl (hb hby d1_13) rfl (flt (by decide)).2.1 (by decide) (by decide) ?_
    show Steps p.tables e below (s₁.setTop (mkF m 33 #[.val (.ref a1), .val (.int ((0 : Int32) ||| x0)), .val (.ref a1), .val (.int (1 : Int32)), .val (.int (1 : Int32)), .val (.int x0)] [])) _
    refine XS.iloadN X0.here hx rfl (hb hby d1_33) rfl ?_
    show Steps p.tables e below (s₁.setTop (mkF m 34 #[.val (.ref a1), .val (.int ((0 : Int32) ||| x0)), .val (.ref a1), .val (.int (1 : Int32)), .val (.int (1 : Int32)), .val (.int x0)] [(.int ((0 : Int32) ||| x0))])) _
    exact retN X0 hx (t := .boolean) Bd.returns (by simp) (hb hby d1_34) hr
  · show Q1n1 Z a1 kk x0 h0 n0 _ s₁.heap _
    rw [e0]
    have hv : (own_any1 x0) = (nar .boolean ((0 : Int32) ||| x0)) := by unfold own_any1; rfl
    exact ⟨by rw [hv], N0, rfl⟩
theorem pn1n2 : plainName "com/example/braided_tour/braidedtour/choice/Logit" = true := by first | (simp [plainName, overriddenIn]; done) | decide +kernel
theorem ef1n2 (m : MethodId) (a1 : Addr) : entryFrame m #[(.ref a1)] 6 = mkF m 0 #[.val (.ref a1), .unset, .unset, .unset, .unset, .unset] [] := by first | (simp [entryFrame, mkF, argsToLocals, Value.category]; done) | rfl
def own_any2 (x0 : Int32) (x1 : Int32) : Int32 := (nar .boolean (((0 : Int32) ||| x0) ||| x1))
def Q1n2 (Z : State) (a1 : Addr) (kk : ClassId) (x0 : Int32) (x1 : Int32) (h0 : Heap) (n0 : Nat) (v : Option Value) (h : Heap) (L : List Loc) : Prop := v = some (.int (own_any2 x0 x1)) ∧ Fr n0 L ∧ h = h0
set_option maxRecDepth 65536 in
set_option maxHeartbeats 40000000 in
theorem rm1n2 (l : Launch) (Z : State) (a0 : Array Value) (hw : ∀ d ∈ tables_1, d.before a0 Z = true) (ws : List Jvm.Cond) (a1 : Addr) (kk : ClassId) (x0 : Int32) (x1 : Int32) (h0 : Heap) (n0 : Nat) (Z0 : n0 ≤ h0.size) (V0 : Arv Z h0 a1 kk .boolean (2 : Int32) [(.int x0), (.int x1)] (.int (0 : Int32))) :
    MetFree l (⟨"com/example/braided_tour/braidedtour/choice/Logit", "anyAvailable", "([Z)Z"⟩ : MethodName) (head1 (Jvm.Cond.code (⟨"com/example/braided_tour/braidedtour/choice/Logit", "anyAvailable", "([Z)Z"⟩ : MethodName) prog_7_method_3_code 6 (some .boolean) :: ws) ({ frames := 0, cells := 0, slots := 0, locals := 0 } : Room)) (fun a U => a = #[(.ref a1)] ∧ Z.Warmed39 U.vm ∧ U.heap = h0) (fun _ _ _ _ _ => True) (fun _ U o U' => ∃ v L, o = .returned v ∧ Q1n2 Z a1 kk x0 x1 h0 n0 v U'.heap L ∧ FrameEnd U o U' L ({ frames := 0, cells := 0, slots := 0, locals := 0 } : Room).cells ({ frames := 0, cells := 0, slots := 0, locals := 0 } : Room).slots) := by
  refine MetFree.of_bodySF (plainFor_of_name pn1n2) hisR ?_
  intro p e s m args below meth c s₁ Bd hml0 hP hK
  obtain ⟨rfl, hZ, hh⟩ := hP
  have hx := Bd.exec
  have hby := Bd.bytes
  have hml : c.maxLocals = 6 := hml0
  have hown : s.vm.findClass "com/example/braided_tour/braidedtour/choice/Logit" = some m.cls := findClass_of_methodNamed Bd.named
  have hnm := (name_of_methodNamed Bd.named Bd.method).1
  have X0 : Stand p l e ({ frames := 0, cells := 0, slots := 0, locals := 0 } : Room) s m #[(.ref a1)] below meth c s₁ [] 0 0 := Stand.of_body Bd
  have e0 : s₁.heap = h0 := by rw [← hh, Bd.state]; rfl
  have N0 := Fr.nil n0
  have pre0 : ∀ t, Steps p.tables e below (s₁.setTop (mkF m 0 #[.val (.ref a1), .unset, .unset, .unset, .unset, .unset] [])) t → Steps p.tables e below (s₁.setTop (entryFrame m #[(.ref a1)] 6)) t := fun t k => castTop (ef1n2 m a1) k
  have cp5_1 := V0
  obtain ⟨cl5_1, Ar5_1, -, Sa5_1, Na5_1, -, -⟩ := cp5_1
  have cp19_2 := V0
  obtain ⟨cl19_2, Ar19_2, -, Sa19_2, Na19_2, Ha19_2, -⟩ := cp19_2
  have hin19_2 : ¬ ((0 : Int32) < 0 ∨ cl19_2.slots.size ≤ ((0 : Int32)).toNatClampNeg) := inb_of Sa19_2 ⟨by decide, by decide⟩
  have hat19_2 : cl19_2.slots[((0 : Int32)).toNatClampNeg]? = some (.int x0) := Ha19_2.at hin19_2 rfl
  have cp19_3 := V0
  obtain ⟨cl19_3, Ar19_3, -, Sa19_3, Na19_3, Ha19_3, -⟩ := cp19_3
  have hin19_3 : ¬ ((1 : Int32) < 0 ∨ cl19_3.slots.size ≤ ((1 : Int32)).toNatClampNeg) := inb_of Sa19_3 ⟨by decide, by decide⟩
  have hat19_3 : cl19_3.slots[((1 : Int32)).toNatClampNeg]? = some (.int x1) := Ha19_3.at hin19_3 rfl
  obtain ⟨fs, hr, hrun, hended, hW, hsame⟩ := X0.leave (v := some (.int (nar .boolean (((0 : Int32) ||| x0) ||| x1)))) (fun h => by rw [Bd.returns] at h; cases h)
  refine ⟨_, _, pre0 _ ?_, hrun, hended, _, _, rfl, ?_, ⟨_, rfl⟩, hW, hsame.mono (by decide) (by decide)⟩
  · show Steps p.tables e below (s₁.setTop (mkF m 0 #[.val (.ref a1), .unset, .unset, .unset, .unset, .unset] [])) _
    refine XS.iconst X0.here hx rfl (hb hby d1_0) ?_
    show Steps p.tables e below (s₁.setTop (mkF m 1 #[.val (.ref a1), .unset, .unset, .unset, .unset, .unset] [(.int (0 : Int32))])) _
    refine XS.istoreN X0.here hx rfl (hb hby d1_1) rfl (l' := #[.val (.ref a1), .val (.int (0 : Int32)), .unset, .unset, .unset, .unset]) rfl ?_
    show Steps p.tables e below (s₁.setTop (mkF m 2 #[.val (.ref a1), .val (.int (0 : Int32)), .unset, .unset, .unset, .unset] [])) _
    refine XS.aloadN X0.here hx rfl (hb hby d1_2) rfl rfl ?_
    show Steps p.tables e below (s₁.setTop (mkF m 3 #[.val (.ref a1), .val (.int (0 : Int32)), .unset, .unset, .unset, .unset] [(.ref a1)])) _
    refine XS.astoreN X0.here hx rfl (hb hby d1_3) rfl rfl (l' := #[.val (.ref a1), .val (.int (0 : Int32)), .val (.ref a1), .unset, .unset, .unset]) rfl ?_
    show Steps p.tables e below (s₁.setTop (mkF m 4 #[.val (.ref a1), .val (.int (0 : Int32)), .val (.ref a1), .unset, .unset, .unset] [])) _
    refine XS.aloadN X0.here hx rfl (hb hby d1_4) rfl rfl ?_
    show Steps p.tables e below (s₁.setTop (mkF m 5 #[.val (.ref a1), .val (.int (0 : Int32)), .val (.ref a1), .unset, .unset, .unset] [(.ref a1)])) _
    refine X0.arraylength hx (by first | exact Ar5_1.1 | (rw [e0]; exact Ar5_1.1)) (State.isArrayOf_alike hZ.alike Ar5_1.2.1) (g := (mkF m 5 #[.val (.ref a1), .val (.int (0 : Int32)), .val (.ref a1), .unset, .unset, .unset] [(.ref a1)])) rfl rfl (hb hby d1_5) _ ?_
    rw [len_of Sa5_1 Na5_1]
    show Steps p.tables e below (s₁.setTop (mkF m 6 #[.val (.ref a1), .val (.int (0 : Int32)), .val (.ref a1), .unset, .unset, .unset] [(.int (2 : Int32))])) _
    refine XS.istoreN X0.here hx rfl (hb hby d1_6) rfl (l' := #[.val (.ref a1), .val (.int (0 : Int32)), .val (.ref a1), .val (.int (2 : Int32)), .unset, .unset]) rfl ?_
    show Steps p.tables e below (s₁.setTop (mkF m 7 #[.val (.ref a1), .val (.int (0 : Int32)), .val (.ref a1), .val (.int (2 : Int32)), .unset, .unset] [])) _
    refine XS.iconst X0.here hx rfl (hb hby d1_7) ?_
    show Steps p.tables e below (s₁.setTop (mkF m 8 #[.val (.ref a1), .val (.int (0 : Int32)), .val (.ref a1), .val (.int (2 : Int32)), .unset, .unset] [(.int (0 : Int32))])) _
    refine XS.istore X0.here hx rfl (hb hby d1_8) rfl (l' := #[.val (.ref a1), .val (.int (0 : Int32)), .val (.ref a1), .val (.int (2 : Int32)), .val (.int (0 : Int32)), .unset]) rfl ?_
    show Steps p.tables e below (s₁.setTop (mkF m 10 #[.val (.ref a1), .val (.int (0 : Int32)), .val (.ref a1), .val (.int (2 : Int32)), .val (.int (0 : Int32)), .unset] [])) _
    refine XS.iload X0.here hx rfl (hb hby d1_10) rfl ?_
    show Steps p.tables e below (s₁.setTop (mkF m 12 #[.val (.ref a1), .val (.int (0 : Int32)), .val (.ref a1), .val (.int (2 : Int32)), .val (.int (0 : Int32)), .unset] [(.int (0 : Int32))])) _
    refine XS.iloadN X0.here hx rfl (hb hby d1_12) rfl ?_
    show Steps p.tables e below (s₁.setTop (mkF m 13 #[.val (.ref a1), .val (.int (0 : Int32)), .val (.ref a1), .val (.int (2 : Int32)), .val (.int (0 : Int32)), .unset] [(.int (2 : Int32)), (.int (0 : Int32))])) _
    refine XS.icmpNo X0.here hx rfl (hb hby d1_13) rfl (tlt (by decide)).2.1 ?_
    show Steps p.tables e below (s₁.setTop (mkF m 16 #[.val (.ref a1), .val (.int (0 : Int32)), .val (.ref a1), .val (.int (2 : Int32)), .val (.int (0 : Int32)), .unset] [])) _
    refine XS.aloadN X0.here hx rfl (hb hby d1_16) rfl rfl ?_
    show Steps p.tables e below (s₁.setTop (mkF m 17 #[.val (.ref a1), .val (.int (0 : Int32)), .val (.ref a1), .val (.int (2 : Int32)), .val (.int (0 : Int32)), .unset] [(.ref a1)])) _
    refine XS.iload X0.here hx rfl (hb hby d1_17) rfl ?_
    show Steps p.tables e below (s₁.setTop (mkF m 19 #[.val (.ref a1), .val (.int (0 : Int32)), .val (.ref a1), .val (.int (2 : Int32)), .val (.int (0 : Int32)), .unset] [(.int (0 : Int32)), (.ref a1)])) _
    refine X0.baloadBooleans hx (j := (0 : Int32)) (v := (.int x0)) (by first | exact Ar19_2.1 | (rw [e0]; exact Ar19_2.1)) (State.isArrayOf_alike hZ.alike Ar19_2.2.1) Ar19_2.2.2 hin19_2 hat19_2 (g := (mkF m 19 #[.val (.ref a1), .val (.int (0 : Int32)), .val (.ref a1), .val (.int (2 : Int32)), .val (.int (0 : Int32)), .unset] [(.int (0 : Int32)), (.ref a1)])) rfl rfl (hb hby d1_19) _ ?_
    show Steps p.tables e below (s₁.setTop (mkF m 20 #[.val (.ref a1), .val (.int (0 : Int32)), .val (.ref a1), .val (.int (2 : Int32)), .val (.int (0 : Int32)), .unset] [(.int x0)])) _
    refine XS.istore X0.here hx rfl (hb hby d1_20) rfl (l' := #[.val (.ref a1), .val (.int (0 : Int32)), .val (.ref a1), .val (.int (2 : Int32)), .val (.int (0 : Int32)), .val (.int x0)]) rfl ?_
    show Steps p.tables e below (s₁.setTop (mkF m 22 #[.val (.ref a1), .val (.int (0 : Int32)), .val (.ref a1), .val (.int (2 : Int32)), .val (.int (0 : Int32)), .val (.int x0)] [])) _
    refine XS.iloadN X0.here hx rfl (hb hby d1_22) rfl ?_
    show Steps p.tables e below (s₁.setTop (mkF m 23 #[.val (.ref a1), .val (.int (0 : Int32)), .val (.ref a1), .val (.int (2 : Int32)), .val (.int (0 : Int32)), .val (.int x0)] [(.int (0 : Int32))])) _
    refine XS.iload X0.here hx rfl (hb hby d1_23) rfl ?_
    show Steps p.tables e below (s₁.setTop (mkF m 25 #[.val (.ref a1), .val (.int (0 : Int32)), .val (.ref a1), .val (.int (2 : Int32)), .val (.int (0 : Int32)), .val (.int x0)] [(.int x0), (.int (0 : Int32))])) _
    refine XS.ior X0.here hx rfl (hb hby d1_25) rfl ?_
    show Steps p.tables e below (s₁.setTop (mkF m 26 #[.val (.ref a1), .val (.int (0 : Int32)), .val (.ref a1), .val (.int (2 : Int32)), .val (.int (0 : Int32)), .val (.int x0)] [(.int ((0 : Int32) ||| x0))])) _
    refine XS.istoreN X0.here hx rfl (hb hby d1_26) rfl (l' := #[.val (.ref a1), .val (.int ((0 : Int32) ||| x0)), .val (.ref a1), .val (.int (2 : Int32)), .val (.int (0 : Int32)), .val (.int x0)]) rfl ?_
    show Steps p.tables e below (s₁.setTop (mkF m 27 #[.val (.ref a1), .val (.int ((0 : Int32) ||| x0)), .val (.ref a1), .val (.int (2 : Int32)), .val (.int (0 : Int32)), .val (.int x0)] [])) _
    refine XS.iinc X0.here hx rfl (hb hby d1_27) rfl (l' := #[.val (.ref a1), .val (.int ((0 : Int32) ||| x0)), .val (.ref a1), .val (.int (2 : Int32)), .val (.int (1 : Int32)), .val (.int x0)]) rfl ?_
    show Steps p.tables e below (s₁.setTop (mkF m 30 #[.val (.ref a1), .val (.int ((0 : Int32) ||| x0)), .val (.ref a1), .val (.int (2 : Int32)), .val (.int (1 : Int32)), .val (.int x0)] [])) _
    refine XS.goto X0.here hx rfl (pc0 := 30) (pc' := 10) rfl (hb hby d1_30) (by decide) (by decide) ?_
    show Steps p.tables e below (s₁.setTop (mkF m 10 #[.val (.ref a1), .val (.int ((0 : Int32) ||| x0)), .val (.ref a1), .val (.int (2 : Int32)), .val (.int (1 : Int32)), .val (.int x0)] [])) _
    refine XS.iload X0.here hx rfl (hb hby d1_10) rfl ?_
    show Steps p.tables e below (s₁.setTop (mkF m 12 #[.val (.ref a1), .val (.int ((0 : Int32) ||| x0)), .val (.ref a1), .val (.int (2 : Int32)), .val (.int (1 : Int32)), .val (.int x0)] [(.int (1 : Int32))])) _
    refine XS.iloadN X0.here hx rfl (hb hby d1_12) rfl ?_
    show Steps p.tables e below (s₁.setTop (mkF m 13 #[.val (.ref a1), .val (.int ((0 : Int32) ||| x0)), .val (.ref a1), .val (.int (2 : Int32)), .val (.int (1 : Int32)), .val (.int x0)] [(.int (2 : Int32)), (.int (1 : Int32))])) _
    refine XS.icmpNo X0.here hx rfl (hb hby d1_13) rfl (tlt (by decide)).2.1 ?_
    show Steps p.tables e below (s₁.setTop (mkF m 16 #[.val (.ref a1), .val (.int ((0 : Int32) ||| x0)), .val (.ref a1), .val (.int (2 : Int32)), .val (.int (1 : Int32)), .val (.int x0)] [])) _
    refine XS.aloadN X0.here hx rfl (hb hby d1_16) rfl rfl ?_
    show Steps p.tables e below (s₁.setTop (mkF m 17 #[.val (.ref a1), .val (.int ((0 : Int32) ||| x0)), .val (.ref a1), .val (.int (2 : Int32)), .val (.int (1 : Int32)), .val (.int x0)] [(.ref a1)])) _
    refine XS.iload X0.here hx rfl (hb hby d1_17) rfl ?_
    show Steps p.tables e below (s₁.setTop (mkF m 19 #[.val (.ref a1), .val (.int ((0 : Int32) ||| x0)), .val (.ref a1), .val (.int (2 : Int32)), .val (.int (1 : Int32)), .val (.int x0)] [(.int (1 : Int32)), (.ref a1)])) _
    refine X0.baloadBooleans hx (j := (1 : Int32)) (v := (.int x1)) (by first | exact Ar19_3.1 | (rw [e0]; exact Ar19_3.1)) (State.isArrayOf_alike hZ.alike Ar19_3.2.1) Ar19_3.2.2 hin19_3 hat19_3 (g := (mkF m 19 #[.val (.ref a1), .val (.int ((0 : Int32) ||| x0)), .val (.ref a1), .val (.int (2 : Int32)), .val (.int (1 : Int32)), .val (.int x0)] [(.int (1 : Int32)), (.ref a1)])) rfl rfl (hb hby d1_19) _ ?_
    show Steps p.tables e below (s₁.setTop (mkF m 20 #[.val (.ref a1), .val (.int ((0 : Int32) ||| x0)), .val (.ref a1), .val (.int (2 : Int32)), .val (.int (1 : Int32)), .val (.int x0)] [(.int x1)])) _
    refine XS.istore X0.here hx rfl (hb hby d1_20) rfl (l' := #[.val (.ref a1), .val (.int ((0 : Int32) ||| x0)), .val (.ref a1), .val (.int (2 : Int32)), .val (.int (1 : Int32)), .val (.int x1)]) rfl ?_
    show Steps p.tables e below (s₁.setTop (mkF m 22 #[.val (.ref a1), .val (.int ((0 : Int32) ||| x0)), .val (.ref a1), .val (.int (2 : Int32)), .val (.int (1 : Int32)), .val (.int x1)] [])) _
    refine XS.iloadN X0.here hx rfl (hb hby d1_22) rfl ?_
    show Steps p.tables e below (s₁.setTop (mkF m 23 #[.val (.ref a1), .val (.int ((0 : Int32) ||| x0)), .val (.ref a1), .val (.int (2 : Int32)), .val (.int (1 : Int32)), .val (.int x1)] [(.int ((0 : Int32) ||| x0))])) _
    refine XS.iload X0.here hx rfl (hb hby d1_23) rfl ?_
    show Steps p.tables e below (s₁.setTop (mkF m 25 #[.val (.ref a1), .val (.int ((0 : Int32) ||| x0)), .val (.ref a1), .val (.int (2 : Int32)), .val (.int (1 : Int32)), .val (.int x1)] [(.int x1), (.int ((0 : Int32) ||| x0))])) _
    refine XS.ior X0.here hx rfl (hb hby d1_25) rfl ?_
    show Steps p.tables e below (s₁.setTop (mkF m 26 #[.val (.ref a1), .val (.int ((0 : Int32) ||| x0)), .val (.ref a1), .val (.int (2 : Int32)), .val (.int (1 : Int32)), .val (.int x1)] [(.int (((0 : Int32) ||| x0) ||| x1))])) _
    refine XS.istoreN X0.here hx rfl (hb hby d1_26) rfl (l' := #[.val (.ref a1), .val (.int (((0 : Int32) ||| x0) ||| x1)), .val (.ref a1), .val (.int (2 : Int32)), .val (.int (1 : Int32)), .val (.int x1)]) rfl ?_
    show Steps p.tables e below (s₁.setTop (mkF m 27 #[.val (.ref a1), .val (.int (((0 : Int32) ||| x0) ||| x1)), .val (.ref a1), .val (.int (2 : Int32)), .val (.int (1 : Int32)), .val (.int x1)] [])) _
    refine XS.iinc X0.here hx rfl (hb hby d1_27) rfl (l' := #[.val (.ref a1), .val (.int (((0 : Int32) ||| x0) ||| x1)), .val (.ref a1), .val (.int (2 : Int32)), .val (.int (2 : Int32)), .val (.int x1)]) rfl ?_
    show Steps p.tables e below (s₁.setTop (mkF m 30 #[.val (.ref a1), .val (.int (((0 : Int32) ||| x0) ||| x1)), .val (.ref a1), .val (.int (2 : Int32)), .val (.int (2 : Int32)), .val (.int x1)] [])) _
    refine XS.goto X0.here hx rfl (pc0 := 30) (pc' := 10) rfl (hb hby d1_30) (by decide) (by decide) ?_
    show Steps p.tables e below (s₁.setTop (mkF m 10 #[.val (.ref a1), .val (.int (((0 : Int32) ||| x0) ||| x1)), .val (.ref a1), .val (.int (2 : Int32)), .val (.int (2 : Int32)), .val (.int x1)] [])) _
    refine XS.iload X0.here hx rfl (hb hby d1_10) rfl ?_
    show Steps p.tables e below (s₁.setTop (mkF m 12 #[.val (.ref a1), .val (.int (((0 : Int32) ||| x0) ||| x1)), .val (.ref a1), .val (.int (2 : Int32)), .val (.int (2 : Int32)), .val (.int x1)] [(.int (2 : Int32))])) _
    refine XS.iloadN X0.here hx rfl (hb hby d1_12) rfl ?_
    show Steps p.tables e below (s₁.setTop (mkF m 13 #[.val (.ref a1), .val (.int (((0 : Int32) ||| x0) ||| x1)), .val (.ref a1), .val (.int (2 : Int32)), .val (.int (2 : Int32)), .val (.int x1)] [(.int (2 : Int32)), (.int (2 : Int32))])) _
    refine XS.icmpYes X0.here hx rfl (pc0 := 13) (pc' := 33) rfl (hb hby d1_13) rfl (flt (by decide)).2.1 (by decide) (by decide) ?_
    show Steps p.tables e below (s₁.setTop (mkF m 33 #[.val (.ref a1), .val (.int (((0 : Int32) ||| x0) ||| x1)), .val (.ref a1), .val (.int (2 : Int32)), .val (.int (2 : Int32)), .val (.int x1)] [])) _
    refine XS.iloadN X0.here hx rfl (hb hby d1_33) rfl ?_
    show Steps p.tables e below (s₁.setTop (mkF m 34 #[.val (.ref a1), .val (.int (((0 : Int32) ||| x0) ||| x1)), .val (.ref a1), .val (.int (2 : Int32)), .val (.int (2 : Int32)), .val (.int x1)] [(.int (((0 : Int32) ||| x0) ||| x1))])) _
    exact retN X0 hx (t := .boolean) Bd.returns (by simp) (hb hby d1_34) hr
  · show Q1n2 Z a1 kk x0 x1 h0 n0 _ s₁.heap _
    rw [e0]
    have hv : (own_any2 x0 x1) = (nar .boolean (((0 : Int32) ||| x0) ||| x1)) := by unfold own_any2; rfl
    exact ⟨by rw [hv], N0, rfl⟩
theorem pn1n3 : plainName "com/example/braided_tour/braidedtour/choice/Logit" = true := by first | (simp [plainName, overriddenIn]; done) | decide +kernel
theorem ef1n3 (m : MethodId) (a1 : Addr) : entryFrame m #[(.ref a1)] 6 = mkF m 0 #[.val (.ref a1), .unset, .unset, .unset, .unset, .unset] [] := by first | (simp [entryFrame, mkF, argsToLocals, Value.category]; done) | rfl
def own_any3 (x0 : Int32) (x1 : Int32) (x2 : Int32) : Int32 := (nar .boolean ((((0 : Int32) ||| x0) ||| x1) ||| x2))
def Q1n3 (Z : State) (a1 : Addr) (kk : ClassId) (x0 : Int32) (x1 : Int32) (x2 : Int32) (h0 : Heap) (n0 : Nat) (v : Option Value) (h : Heap) (L : List Loc) : Prop := v = some (.int (own_any3 x0 x1 x2)) ∧ Fr n0 L ∧ h = h0
set_option maxRecDepth 65536 in
set_option maxHeartbeats 40000000 in
theorem rm1n3 (l : Launch) (Z : State) (a0 : Array Value) (hw : ∀ d ∈ tables_1, d.before a0 Z = true) (ws : List Jvm.Cond) (a1 : Addr) (kk : ClassId) (x0 : Int32) (x1 : Int32) (x2 : Int32) (h0 : Heap) (n0 : Nat) (Z0 : n0 ≤ h0.size) (V0 : Arv Z h0 a1 kk .boolean (3 : Int32) [(.int x0), (.int x1), (.int x2)] (.int (0 : Int32))) :
    MetFree l (⟨"com/example/braided_tour/braidedtour/choice/Logit", "anyAvailable", "([Z)Z"⟩ : MethodName) (head1 (Jvm.Cond.code (⟨"com/example/braided_tour/braidedtour/choice/Logit", "anyAvailable", "([Z)Z"⟩ : MethodName) prog_7_method_3_code 6 (some .boolean) :: ws) ({ frames := 0, cells := 0, slots := 0, locals := 0 } : Room)) (fun a U => a = #[(.ref a1)] ∧ Z.Warmed39 U.vm ∧ U.heap = h0) (fun _ _ _ _ _ => True) (fun _ U o U' => ∃ v L, o = .returned v ∧ Q1n3 Z a1 kk x0 x1 x2 h0 n0 v U'.heap L ∧ FrameEnd U o U' L ({ frames := 0, cells := 0, slots := 0, locals := 0 } : Room).cells ({ frames := 0, cells := 0, slots := 0, locals := 0 } : Room).slots) := by
  refine MetFree.of_bodySF (plainFor_of_name pn1n3) hisR ?_
  intro p e s m args below meth c s₁ Bd hml0 hP hK
  obtain ⟨rfl, hZ, hh⟩ := hP
  have hx := Bd.exec
  have hby := Bd.bytes
  have hml : c.maxLocals = 6 := hml0
  have hown : s.vm.findClass "com/example/braided_tour/braidedtour/choice/Logit" = some m.cls := findClass_of_methodNamed Bd.named
  have hnm := (name_of_methodNamed Bd.named Bd.method).1
  have X0 : Stand p l e ({ frames := 0, cells := 0, slots := 0, locals := 0 } : Room) s m #[(.ref a1)] below meth c s₁ [] 0 0 := Stand.of_body Bd
  have e0 : s₁.heap = h0 := by rw [← hh, Bd.state]; rfl
  have N0 := Fr.nil n0
  have pre0 : ∀ t, Steps p.tables e below (s₁.setTop (mkF m 0 #[.val (.ref a1), .unset, .unset, .unset, .unset, .unset] [])) t → Steps p.tables e below (s₁.setTop (entryFrame m #[(.ref a1)] 6)) t := fun t k => castTop (ef1n3 m a1) k
  have cp5_1 := V0
  obtain ⟨cl5_1, Ar5_1, -, Sa5_1, Na5_1, -, -⟩ := cp5_1
  have cp19_2 := V0
  obtain ⟨cl19_2, Ar19_2, -, Sa19_2, Na19_2, Ha19_2, -⟩ := cp19_2
  have hin19_2 : ¬ ((0 : Int32) < 0 ∨ cl19_2.slots.size ≤ ((0 : Int32)).toNatClampNeg) := inb_of Sa19_2 ⟨by decide, by decide⟩
  have hat19_2 : cl19_2.slots[((0 : Int32)).toNatClampNeg]? = some (.int x0) := Ha19_2.at hin19_2 rfl
  have cp19_3 := V0
  obtain ⟨cl19_3, Ar19_3, -, Sa19_3, Na19_3, Ha19_3, -⟩ := cp19_3
  have hin19_3 : ¬ ((1 : Int32) < 0 ∨ cl19_3.slots.size ≤ ((1 : Int32)).toNatClampNeg) := inb_of Sa19_3 ⟨by decide, by decide⟩
  have hat19_3 : cl19_3.slots[((1 : Int32)).toNatClampNeg]? = some (.int x1) := Ha19_3.at hin19_3 rfl
  have cp19_4 := V0
  obtain ⟨cl19_4, Ar19_4, -, Sa19_4, Na19_4, Ha19_4, -⟩ := cp19_4
  have hin19_4 : ¬ ((2 : Int32) < 0 ∨ cl19_4.slots.size ≤ ((2 : Int32)).toNatClampNeg) := inb_of Sa19_4 ⟨by decide, by decide⟩
  have hat19_4 : cl19_4.slots[((2 : Int32)).toNatClampNeg]? = some (.int x2) := Ha19_4.at hin19_4 rfl
  obtain ⟨fs, hr, hrun, hended, hW, hsame⟩ := X0.leave (v := some (.int (nar .boolean ((((0 : Int32) ||| x0) ||| x1) ||| x2)))) (fun h => by rw [Bd.returns] at h; cases h)
  refine ⟨_, _, pre0 _ ?_, hrun, hended, _, _, rfl, ?_, ⟨_, rfl⟩, hW, hsame.mono (by decide) (by decide)⟩
  · show Steps p.tables e below (s₁.setTop (mkF m 0 #[.val (.ref a1), .unset, .unset, .unset, .unset, .unset] [])) _
    refine XS.iconst X0.here hx rfl (hb hby d1_0) ?_
    show Steps p.tables e below (s₁.setTop (mkF m 1 #[.val (.ref a1), .unset, .unset, .unset, .unset, .unset] [(.int (0 : Int32))])) _
    refine XS.istoreN X0.here hx rfl (hb hby d1_1) rfl (l' := #[.val (.ref a1), .val (.int (0 : Int32)), .unset, .unset, .unset, .unset]) rfl ?_
    show Steps p.tables e below (s₁.setTop (mkF m 2 #[.val (.ref a1), .val (.int (0 : Int32)), .unset, .unset, .unset, .unset] [])) _
    refine XS.aloadN X0.here hx rfl (hb hby d1_2) rfl rfl ?_
    show Steps p.tables e below (s₁.setTop (mkF m 3 #[.val (.ref a1), .val (.int (0 : Int32)), .unset, .unset, .unset, .unset] [(.ref a1)])) _
    refine XS.astoreN X0.here hx rfl (hb hby d1_3) rfl rfl (l' := #[.val (.ref a1), .val (.int (0 : Int32)), .val (.ref a1), .unset, .unset, .unset]) rfl ?_
    show Steps p.tables e below (s₁.setTop (mkF m 4 #[.val (.ref a1), .val (.int (0 : Int32)), .val (.ref a1), .unset, .unset, .unset] [])) _
    refine XS.aloadN X0.here hx rfl (hb hby d1_4) rfl rfl ?_
    show Steps p.tables e below (s₁.setTop (mkF m 5 #[.val (.ref a1), .val (.int (0 : Int32)), .val (.ref a1), .unset, .unset, .unset] [(.ref a1)])) _
    refine X0.arraylength hx (by first | exact Ar5_1.1 | (rw [e0]; exact Ar5_1.1)) (State.isArrayOf_alike hZ.alike Ar5_1.2.1) (g := (mkF m 5 #[.val (.ref a1), .val (.int (0 : Int32)), .val (.ref a1), .unset, .unset, .unset] [(.ref a1)])) rfl rfl (hb hby d1_5) _ ?_
    rw [len_of Sa5_1 Na5_1]
    show Steps p.tables e below (s₁.setTop (mkF m 6 #[.val (.ref a1), .val (.int (0 : Int32)), .val (.ref a1), .unset, .unset, .unset] [(.int (3 : Int32))])) _
    refine XS.istoreN X0.here hx rfl (hb hby d1_6) rfl (l' := #[.val (.ref a1), .val (.int (0 : Int32)), .val (.ref a1), .val (.int (3 : Int32)), .unset, .unset]) rfl ?_
    show Steps p.tables e below (s₁.setTop (mkF m 7 #[.val (.ref a1), .val (.int (0 : Int32)), .val (.ref a1), .val (.int (3 : Int32)), .unset, .unset] [])) _
    refine XS.iconst X0.here hx rfl (hb hby d1_7) ?_
    show Steps p.tables e below (s₁.setTop (mkF m 8 #[.val (.ref a1), .val (.int (0 : Int32)), .val (.ref a1), .val (.int (3 : Int32)), .unset, .unset] [(.int (0 : Int32))])) _
    refine XS.istore X0.here hx rfl (hb hby d1_8) rfl (l' := #[.val (.ref a1), .val (.int (0 : Int32)), .val (.ref a1), .val (.int (3 : Int32)), .val (.int (0 : Int32)), .unset]) rfl ?_
    show Steps p.tables e below (s₁.setTop (mkF m 10 #[.val (.ref a1), .val (.int (0 : Int32)), .val (.ref a1), .val (.int (3 : Int32)), .val (.int (0 : Int32)), .unset] [])) _
    refine XS.iload X0.here hx rfl (hb hby d1_10) rfl ?_
    show Steps p.tables e below (s₁.setTop (mkF m 12 #[.val (.ref a1), .val (.int (0 : Int32)), .val (.ref a1), .val (.int (3 : Int32)), .val (.int (0 : Int32)), .unset] [(.int (0 : Int32))])) _
    refine XS.iloadN X0.here hx rfl (hb hby d1_12) rfl ?_
    show Steps p.tables e below (s₁.setTop (mkF m 13 #[.val (.ref a1), .val (.int (0 : Int32)), .val (.ref a1), .val (.int (3 : Int32)), .val (.int (0 : Int32)), .unset] [(.int (3 : Int32)), (.int (0 : Int32))])) _
    refine XS.icmpNo X0.here hx rfl (hb hby d1_13) rfl (tlt (by decide)).2.1 ?_
    show Steps p.tables e below (s₁.setTop (mkF m 16 #[.val (.ref a1), .val (.int (0 : Int32)), .val (.ref a1), .val (.int (3 : Int32)), .val (.int (0 : Int32)), .unset] [])) _
    refine XS.aloadN X0.here hx rfl (hb hby d1_16) rfl rfl ?_
    show Steps p.tables e below (s₁.setTop (mkF m 17 #[.val (.ref a1), .val (.int (0 : Int32)), .val (.ref a1), .val (.int (3 : Int32)), .val (.int (0 : Int32)), .unset] [(.ref a1)])) _
    refine XS.iload X0.here hx rfl (hb hby d1_17) rfl ?_
    show Steps p.tables e below (s₁.setTop (mkF m 19 #[.val (.ref a1), .val (.int (0 : Int32)), .val (.ref a1), .val (.int (3 : Int32)), .val (.int (0 : Int32)), .unset] [(.int (0 : Int32)), (.ref a1)])) _
    refine X0.baloadBooleans hx (j := (0 : Int32)) (v := (.int x0)) (by first | exact Ar19_2.1 | (rw [e0]; exact Ar19_2.1)) (State.isArrayOf_alike hZ.alike Ar19_2.2.1) Ar19_2.2.2 hin19_2 hat19_2 (g := (mkF m 19 #[.val (.ref a1), .val (.int (0 : Int32)), .val (.ref a1), .val (.int (3 : Int32)), .val (.int (0 : Int32)), .unset] [(.int (0 : Int32)), (.ref a1)])) rfl rfl (hb hby d1_19) _ ?_
    show Steps p.tables e below (s₁.setTop (mkF m 20 #[.val (.ref a1), .val (.int (0 : Int32)), .val (.ref a1), .val (.int (3 : Int32)), .val (.int (0 : Int32)), .unset] [(.int x0)])) _
    refine XS.istore X0.here hx rfl (hb hby d1_20) rfl (l' := #[.val (.ref a1), .val (.int (0 : Int32)), .val (.ref a1), .val (.int (3 : Int32)), .val (.int (0 : Int32)), .val (.int x0)]) rfl ?_
    show Steps p.tables e below (s₁.setTop (mkF m 22 #[.val (.ref a1), .val (.int (0 : Int32)), .val (.ref a1), .val (.int (3 : Int32)), .val (.int (0 : Int32)), .val (.int x0)] [])) _
    refine XS.iloadN X0.here hx rfl (hb hby d1_22) rfl ?_
    show Steps p.tables e below (s₁.setTop (mkF m 23 #[.val (.ref a1), .val (.int (0 : Int32)), .val (.ref a1), .val (.int (3 : Int32)), .val (.int (0 : Int32)), .val (.int x0)] [(.int (0 : Int32))])) _
    refine XS.iload X0.here hx rfl (hb hby d1_23) rfl ?_
    show Steps p.tables e below (s₁.setTop (mkF m 25 #[.val (.ref a1), .val (.int (0 : Int32)), .val (.ref a1), .val (.int (3 : Int32)), .val (.int (0 : Int32)), .val (.int x0)] [(.int x0), (.int (0 : Int32))])) _
    refine XS.ior X0.here hx rfl (hb hby d1_25) rfl ?_
    show Steps p.tables e below (s₁.setTop (mkF m 26 #[.val (.ref a1), .val (.int (0 : Int32)), .val (.ref a1), .val (.int (3 : Int32)), .val (.int (0 : Int32)), .val (.int x0)] [(.int ((0 : Int32) ||| x0))])) _
    refine XS.istoreN X0.here hx rfl (hb hby d1_26) rfl (l' := #[.val (.ref a1), .val (.int ((0 : Int32) ||| x0)), .val (.ref a1), .val (.int (3 : Int32)), .val (.int (0 : Int32)), .val (.int x0)]) rfl ?_
    show Steps p.tables e below (s₁.setTop (mkF m 27 #[.val (.ref a1), .val (.int ((0 : Int32) ||| x0)), .val (.ref a1), .val (.int (3 : Int32)), .val (.int (0 : Int32)), .val (.int x0)] [])) _
    refine XS.iinc X0.here hx rfl (hb hby d1_27) rfl (l' := #[.val (.ref a1), .val (.int ((0 : Int32) ||| x0)), .val (.ref a1), .val (.int (3 : Int32)), .val (.int (1 : Int32)), .val (.int x0)]) rfl ?_
    show Steps p.tables e below (s₁.setTop (mkF m 30 #[.val (.ref a1), .val (.int ((0 : Int32) ||| x0)), .val (.ref a1), .val (.int (3 : Int32)), .val (.int (1 : Int32)), .val (.int x0)] [])) _
    refine XS.goto X0.here hx rfl (pc0 := 30) (pc' := 10) rfl (hb hby d1_30) (by decide) (by decide) ?_
    show Steps p.tables e below (s₁.setTop (mkF m 10 #[.val (.ref a1), .val (.int ((0 : Int32) ||| x0)), .val (.ref a1), .val (.int (3 : Int32)), .val (.int (1 : Int32)), .val (.int x0)] [])) _
    refine XS.iload X0.here hx rfl (hb hby d1_10) rfl ?_
    show Steps p.tables e below (s₁.setTop (mkF m 12 #[.val (.ref a1), .val (.int ((0 : Int32) ||| x0)), .val (.ref a1), .val (.int (3 : Int32)), .val (.int (1 : Int32)), .val (.int x0)] [(.int (1 : Int32))])) _
    refine XS.iloadN X0.here hx rfl (hb hby d1_12) rfl ?_
    show Steps p.tables e below (s₁.setTop (mkF m 13 #[.val (.ref a1), .val (.int ((0 : Int32) ||| x0)), .val (.ref a1), .val (.int (3 : Int32)), .val (.int (1 : Int32)), .val (.int x0)] [(.int (3 : Int32)), (.int (1 : Int32))])) _
    refine XS.icmpNo X0.here hx rfl (hb hby d1_13) rfl (tlt (by decide)).2.1 ?_
    show Steps p.tables e below (s₁.setTop (mkF m 16 #[.val (.ref a1), .val (.int ((0 : Int32) ||| x0)), .val (.ref a1), .val (.int (3 : Int32)), .val (.int (1 : Int32)), .val (.int x0)] [])) _
    refine XS.aloadN X0.here hx rfl (hb hby d1_16) rfl rfl ?_
    show Steps p.tables e below (s₁.setTop (mkF m 17 #[.val (.ref a1), .val (.int ((0 : Int32) ||| x0)), .val (.ref a1), .val (.int (3 : Int32)), .val (.int (1 : Int32)), .val (.int x0)] [(.ref a1)])) _
    refine XS.iload X0.here hx rfl (hb hby d1_17) rfl ?_
    show Steps p.tables e below (s₁.setTop (mkF m 19 #[.val (.ref a1), .val (.int ((0 : Int32) ||| x0)), .val (.ref a1), .val (.int (3 : Int32)), .val (.int (1 : Int32)), .val (.int x0)] [(.int (1 : Int32)), (.ref a1)])) _
    refine X0.baloadBooleans hx (j := (1 : Int32)) (v := (.int x1)) (by first | exact Ar19_3.1 | (rw [e0]; exact Ar19_3.1)) (State.isArrayOf_alike hZ.alike Ar19_3.2.1) Ar19_3.2.2 hin19_3 hat19_3 (g := (mkF m 19 #[.val (.ref a1), .val (.int ((0 : Int32) ||| x0)), .val (.ref a1), .val (.int (3 : Int32)), .val (.int (1 : Int32)), .val (.int x0)] [(.int (1 : Int32)), (.ref a1)])) rfl rfl (hb hby d1_19) _ ?_
    show Steps p.tables e below (s₁.setTop (mkF m 20 #[.val (.ref a1), .val (.int ((0 : Int32) ||| x0)), .val (.ref a1), .val (.int (3 : Int32)), .val (.int (1 : Int32)), .val (.int x0)] [(.int x1)])) _
    refine XS.istore X0.here hx rfl (hb hby d1_20) rfl (l' := #[.val (.ref a1), .val (.int ((0 : Int32) ||| x0)), .val (.ref a1), .val (.int (3 : Int32)), .val (.int (1 : Int32)), .val (.int x1)]) rfl ?_
    show Steps p.tables e below (s₁.setTop (mkF m 22 #[.val (.ref a1), .val (.int ((0 : Int32) ||| x0)), .val (.ref a1), .val (.int (3 : Int32)), .val (.int (1 : Int32)), .val (.int x1)] [])) _
    refine XS.iloadN X0.here hx rfl (hb hby d1_22) rfl ?_
    show Steps p.tables e below (s₁.setTop (mkF m 23 #[.val (.ref a1), .val (.int ((0 : Int32) ||| x0)), .val (.ref a1), .val (.int (3 : Int32)), .val (.int (1 : Int32)), .val (.int x1)] [(.int ((0 : Int32) ||| x0))])) _
    refine XS.iload X0.here hx rfl (hb hby d1_23) rfl ?_
    show Steps p.tables e below (s₁.setTop (mkF m 25 #[.val (.ref a1), .val (.int ((0 : Int32) ||| x0)), .val (.ref a1), .val (.int (3 : Int32)), .val (.int (1 : Int32)), .val (.int x1)] [(.int x1), (.int ((0 : Int32) ||| x0))])) _
    refine XS.ior X0.here hx rfl (hb hby d1_25) rfl ?_
    show Steps p.tables e below (s₁.setTop (mkF m 26 #[.val (.ref a1), .val (.int ((0 : Int32) ||| x0)), .val (.ref a1), .val (.int (3 : Int32)), .val (.int (1 : Int32)), .val (.int x1)] [(.int (((0 : Int32) ||| x0) ||| x1))])) _
    refine XS.istoreN X0.here hx rfl (hb hby d1_26) rfl (l' := #[.val (.ref a1), .val (.int (((0 : Int32) ||| x0) ||| x1)), .val (.ref a1), .val (.int (3 : Int32)), .val (.int (1 : Int32)), .val (.int x1)]) rfl ?_
    show Steps p.tables e below (s₁.setTop (mkF m 27 #[.val (.ref a1), .val (.int (((0 : Int32) ||| x0) ||| x1)), .val (.ref a1), .val (.int (3 : Int32)), .val (.int (1 : Int32)), .val (.int x1)] [])) _
    refine XS.iinc X0.here hx rfl (hb hby d1_27) rfl (l' := #[.val (.ref a1), .val (.int (((0 : Int32) ||| x0) ||| x1)), .val (.ref a1), .val (.int (3 : Int32)), .val (.int (2 : Int32)), .val (.int x1)]) rfl ?_
    show Steps p.tables e below (s₁.setTop (mkF m 30 #[.val (.ref a1), .val (.int (((0 : Int32) ||| x0) ||| x1)), .val (.ref a1), .val (.int (3 : Int32)), .val (.int (2 : Int32)), .val (.int x1)] [])) _
    refine XS.goto X0.here hx rfl (pc0 := 30) (pc' := 10) rfl (hb hby d1_30) (by decide) (by decide) ?_
    show Steps p.tables e below (s₁.setTop (mkF m 10 #[.val (.ref a1), .val (.int (((0 : Int32) ||| x0) ||| x1)), .val (.ref a1), .val (.int (3 : Int32)), .val (.int (2 : Int32)), .val (.int x1)] [])) _
    refine XS.iload X0.here hx rfl (hb hby d1_10) rfl ?_
    show Steps p.tables e below (s₁.setTop (mkF m 12 #[.val (.ref a1), .val (.int (((0 : Int32) ||| x0) ||| x1)), .val (.ref a1), .val (.int (3 : Int32)), .val (.int (2 : Int32)), .val (.int x1)] [(.int (2 : Int32))])) _
    refine XS.iloadN X0.here hx rfl (hb hby d1_12) rfl ?_
    show Steps p.tables e below (s₁.setTop (mkF m 13 #[.val (.ref a1), .val (.int (((0 : Int32) ||| x0) ||| x1)), .val (.ref a1), .val (.int (3 : Int32)), .val (.int (2 : Int32)), .val (.int x1)] [(.int (3 : Int32)), (.int (2 : Int32))])) _
    refine XS.icmpNo X0.here hx rfl (hb hby d1_13) rfl (tlt (by decide)).2.1 ?_
    show Steps p.tables e below (s₁.setTop (mkF m 16 #[.val (.ref a1), .val (.int (((0 : Int32) ||| x0) ||| x1)), .val (.ref a1), .val (.int (3 : Int32)), .val (.int (2 : Int32)), .val (.int x1)] [])) _
    refine XS.aloadN X0.here hx rfl (hb hby d1_16) rfl rfl ?_
    show Steps p.tables e below (s₁.setTop (mkF m 17 #[.val (.ref a1), .val (.int (((0 : Int32) ||| x0) ||| x1)), .val (.ref a1), .val (.int (3 : Int32)), .val (.int (2 : Int32)), .val (.int x1)] [(.ref a1)])) _
    refine XS.iload X0.here hx rfl (hb hby d1_17) rfl ?_
    show Steps p.tables e below (s₁.setTop (mkF m 19 #[.val (.ref a1), .val (.int (((0 : Int32) ||| x0) ||| x1)), .val (.ref a1), .val (.int (3 : Int32)), .val (.int (2 : Int32)), .val (.int x1)] [(.int (2 : Int32)), (.ref a1)])) _
    refine X0.baloadBooleans hx (j := (2 : Int32)) (v := (.int x2)) (by first | exact Ar19_4.1 | (rw [e0]; exact Ar19_4.1)) (State.isArrayOf_alike hZ.alike Ar19_4.2.1) Ar19_4.2.2 hin19_4 hat19_4 (g := (mkF m 19 #[.val (.ref a1), .val (.int (((0 : Int32) ||| x0) ||| x1)), .val (.ref a1), .val (.int (3 : Int32)), .val (.int (2 : Int32)), .val (.int x1)] [(.int (2 : Int32)), (.ref a1)])) rfl rfl (hb hby d1_19) _ ?_
    show Steps p.tables e below (s₁.setTop (mkF m 20 #[.val (.ref a1), .val (.int (((0 : Int32) ||| x0) ||| x1)), .val (.ref a1), .val (.int (3 : Int32)), .val (.int (2 : Int32)), .val (.int x1)] [(.int x2)])) _
    refine XS.istore X0.here hx rfl (hb hby d1_20) rfl (l' := #[.val (.ref a1), .val (.int (((0 : Int32) ||| x0) ||| x1)), .val (.ref a1), .val (.int (3 : Int32)), .val (.int (2 : Int32)), .val (.int x2)]) rfl ?_
    show Steps p.tables e below (s₁.setTop (mkF m 22 #[.val (.ref a1), .val (.int (((0 : Int32) ||| x0) ||| x1)), .val (.ref a1), .val (.int (3 : Int32)), .val (.int (2 : Int32)), .val (.int x2)] [])) _
    refine XS.iloadN X0.here hx rfl (hb hby d1_22) rfl ?_
    show Steps p.tables e below (s₁.setTop (mkF m 23 #[.val (.ref a1), .val (.int (((0 : Int32) ||| x0) ||| x1)), .val (.ref a1), .val (.int (3 : Int32)), .val (.int (2 : Int32)), .val (.int x2)] [(.int (((0 : Int32) ||| x0) ||| x1))])) _
    refine XS.iload X0.here hx rfl (hb hby d1_23) rfl ?_
    show Steps p.tables e below (s₁.setTop (mkF m 25 #[.val (.ref a1), .val (.int (((0 : Int32) ||| x0) ||| x1)), .val (.ref a1), .val (.int (3 : Int32)), .val (.int (2 : Int32)), .val (.int x2)] [(.int x2), (.int (((0 : Int32) ||| x0) ||| x1))])) _
    refine XS.ior X0.here hx rfl (hb hby d1_25) rfl ?_
    show Steps p.tables e below (s₁.setTop (mkF m 26 #[.val (.ref a1), .val (.int (((0 : Int32) ||| x0) ||| x1)), .val (.ref a1), .val (.int (3 : Int32)), .val (.int (2 : Int32)), .val (.int x2)] [(.int ((((0 : Int32) ||| x0) ||| x1) ||| x2))])) _
    refine XS.istoreN X0.here hx rfl (hb hby d1_26) rfl (l' := #[.val (.ref a1), .val (.int ((((0 : Int32) ||| x0) ||| x1) ||| x2)), .val (.ref a1), .val (.int (3 : Int32)), .val (.int (2 : Int32)), .val (.int x2)]) rfl ?_
    show Steps p.tables e below (s₁.setTop (mkF m 27 #[.val (.ref a1), .val (.int ((((0 : Int32) ||| x0) ||| x1) ||| x2)), .val (.ref a1), .val (.int (3 : Int32)), .val (.int (2 : Int32)), .val (.int x2)] [])) _
    refine XS.iinc X0.here hx rfl (hb hby d1_27) rfl (l' := #[.val (.ref a1), .val (.int ((((0 : Int32) ||| x0) ||| x1) ||| x2)), .val (.ref a1), .val (.int (3 : Int32)), .val (.int (3 : Int32)), .val (.int x2)]) rfl ?_
    show Steps p.tables e below (s₁.setTop (mkF m 30 #[.val (.ref a1), .val (.int ((((0 : Int32) ||| x0) ||| x1) ||| x2)), .val (.ref a1), .val (.int (3 : Int32)), .val (.int (3 : Int32)), .val (.int x2)] [])) _
    refine XS.goto X0.here hx rfl (pc0 := 30) (pc' := 10) rfl (hb hby d1_30) (by decide) (by decide) ?_
    show Steps p.tables e below (s₁.setTop (mkF m 10 #[.val (.ref a1), .val (.int ((((0 : Int32) ||| x0) ||| x1) ||| x2)), .val (.ref a1), .val (.int (3 : Int32)), .val (.int (3 : Int32)), .val (.int x2)] [])) _
    refine XS.iload X0.here hx rfl (hb hby d1_10) rfl ?_
    show Steps p.tables e below (s₁.setTop (mkF m 12 #[.val (.ref a1), .val (.int ((((0 : Int32) ||| x0) ||| x1) ||| x2)), .val (.ref a1), .val (.int (3 : Int32)), .val (.int (3 : Int32)), .val (.int x2)] [(.int (3 : Int32))])) _
    refine XS.iloadN X0.here hx rfl (hb hby d1_12) rfl ?_
    show Steps p.tables e below (s₁.setTop (mkF m 13 #[.val (.ref a1), .val (.int ((((0 : Int32) ||| x0) ||| x1) ||| x2)), .val (.ref a1), .val (.int (3 : Int32)), .val (.int (3 : Int32)), .val (.int x2)] [(.int (3 : Int32)), (.int (3 : Int32))])) _
    refine XS.icmpYes X0.here hx rfl (pc0 := 13) (pc' := 33) rfl (hb hby d1_13) rfl (flt (by decide)).2.1 (by decide) (by decide) ?_
    show Steps p.tables e below (s₁.setTop (mkF m 33 #[.val (.ref a1), .val (.int ((((0 : Int32) ||| x0) ||| x1) ||| x2)), .val (.ref a1), .val (.int (3 : Int32)), .val (.int (3 : Int32)), .val (.int x2)] [])) _
    refine XS.iloadN X0.here hx rfl (hb hby d1_33) rfl ?_
    show Steps p.tables e below (s₁.setTop (mkF m 34 #[.val (.ref a1), .val (.int ((((0 : Int32) ||| x0) ||| x1) ||| x2)), .val (.ref a1), .val (.int (3 : Int32)), .val (.int (3 : Int32)), .val (.int x2)] [(.int ((((0 : Int32) ||| x0) ||| x1) ||| x2))])) _
    exact retN X0 hx (t := .boolean) Bd.returns (by simp) (hb hby d1_34) hr
  · show Q1n3 Z a1 kk x0 x1 x2 h0 n0 _ s₁.heap _
    rw [e0]
    have hv : (own_any3 x0 x1 x2) = (nar .boolean ((((0 : Int32) ||| x0) ||| x1) ||| x2)) := by unfold own_any3; rfl
    exact ⟨by rw [hv], N0, rfl⟩
theorem pn1n4 : plainName "com/example/braided_tour/braidedtour/choice/Logit" = true := by first | (simp [plainName, overriddenIn]; done) | decide +kernel
theorem ef1n4 (m : MethodId) (a1 : Addr) : entryFrame m #[(.ref a1)] 6 = mkF m 0 #[.val (.ref a1), .unset, .unset, .unset, .unset, .unset] [] := by first | (simp [entryFrame, mkF, argsToLocals, Value.category]; done) | rfl
def own_any4 (x0 : Int32) (x1 : Int32) (x2 : Int32) (x3 : Int32) : Int32 := (nar .boolean (((((0 : Int32) ||| x0) ||| x1) ||| x2) ||| x3))
def Q1n4 (Z : State) (a1 : Addr) (kk : ClassId) (x0 : Int32) (x1 : Int32) (x2 : Int32) (x3 : Int32) (h0 : Heap) (n0 : Nat) (v : Option Value) (h : Heap) (L : List Loc) : Prop := v = some (.int (own_any4 x0 x1 x2 x3)) ∧ Fr n0 L ∧ h = h0
set_option maxRecDepth 65536 in
set_option maxHeartbeats 40000000 in
theorem rm1n4 (l : Launch) (Z : State) (a0 : Array Value) (hw : ∀ d ∈ tables_1, d.before a0 Z = true) (ws : List Jvm.Cond) (a1 : Addr) (kk : ClassId) (x0 : Int32) (x1 : Int32) (x2 : Int32) (x3 : Int32) (h0 : Heap) (n0 : Nat) (Z0 : n0 ≤ h0.size) (V0 : Arv Z h0 a1 kk .boolean (4 : Int32) [(.int x0), (.int x1), (.int x2), (.int x3)] (.int (0 : Int32))) :
    MetFree l (⟨"com/example/braided_tour/braidedtour/choice/Logit", "anyAvailable", "([Z)Z"⟩ : MethodName) (head1 (Jvm.Cond.code (⟨"com/example/braided_tour/braidedtour/choice/Logit", "anyAvailable", "([Z)Z"⟩ : MethodName) prog_7_method_3_code 6 (some .boolean) :: ws) ({ frames := 0, cells := 0, slots := 0, locals := 0 } : Room)) (fun a U => a = #[(.ref a1)] ∧ Z.Warmed39 U.vm ∧ U.heap = h0) (fun _ _ _ _ _ => True) (fun _ U o U' => ∃ v L, o = .returned v ∧ Q1n4 Z a1 kk x0 x1 x2 x3 h0 n0 v U'.heap L ∧ FrameEnd U o U' L ({ frames := 0, cells := 0, slots := 0, locals := 0 } : Room).cells ({ frames := 0, cells := 0, slots := 0, locals := 0 } : Room).slots) := by
  refine MetFree.of_bodySF (plainFor_of_name pn1n4) hisR ?_
  intro p e s m args below meth c s₁ Bd hml0 hP hK
  obtain ⟨rfl, hZ, hh⟩ := hP
  have hx := Bd.exec
  have hby := Bd.bytes
  have hml : c.maxLocals = 6 := hml0
  have hown : s.vm.findClass "com/example/braided_tour/braidedtour/choice/Logit" = some m.cls := findClass_of_methodNamed Bd.named
  have hnm := (name_of_methodNamed Bd.named Bd.method).1
  have X0 : Stand p l e ({ frames := 0, cells := 0, slots := 0, locals := 0 } : Room) s m #[(.ref a1)] below meth c s₁ [] 0 0 := Stand.of_body Bd
  have e0 : s₁.heap = h0 := by rw [← hh, Bd.state]; rfl
  have N0 := Fr.nil n0
  have pre0 : ∀ t, Steps p.tables e below (s₁.setTop (mkF m 0 #[.val (.ref a1), .unset, .unset, .unset, .unset, .unset] [])) t → Steps p.tables e below (s₁.setTop (entryFrame m #[(.ref a1)] 6)) t := fun t k => castTop (ef1n4 m a1) k
  have cp5_1 := V0
  obtain ⟨cl5_1, Ar5_1, -, Sa5_1, Na5_1, -, -⟩ := cp5_1
  have cp19_2 := V0
  obtain ⟨cl19_2, Ar19_2, -, Sa19_2, Na19_2, Ha19_2, -⟩ := cp19_2
  have hin19_2 : ¬ ((0 : Int32) < 0 ∨ cl19_2.slots.size ≤ ((0 : Int32)).toNatClampNeg) := inb_of Sa19_2 ⟨by decide, by decide⟩
  have hat19_2 : cl19_2.slots[((0 : Int32)).toNatClampNeg]? = some (.int x0) := Ha19_2.at hin19_2 rfl
  have cp19_3 := V0
  obtain ⟨cl19_3, Ar19_3, -, Sa19_3, Na19_3, Ha19_3, -⟩ := cp19_3
  have hin19_3 : ¬ ((1 : Int32) < 0 ∨ cl19_3.slots.size ≤ ((1 : Int32)).toNatClampNeg) := inb_of Sa19_3 ⟨by decide, by decide⟩
  have hat19_3 : cl19_3.slots[((1 : Int32)).toNatClampNeg]? = some (.int x1) := Ha19_3.at hin19_3 rfl
  have cp19_4 := V0
  obtain ⟨cl19_4, Ar19_4, -, Sa19_4, Na19_4, Ha19_4, -⟩ := cp19_4
  have hin19_4 : ¬ ((2 : Int32) < 0 ∨ cl19_4.slots.size ≤ ((2 : Int32)).toNatClampNeg) := inb_of Sa19_4 ⟨by decide, by decide⟩
  have hat19_4 : cl19_4.slots[((2 : Int32)).toNatClampNeg]? = some (.int x2) := Ha19_4.at hin19_4 rfl
  have cp19_5 := V0
  obtain ⟨cl19_5, Ar19_5, -, Sa19_5, Na19_5, Ha19_5, -⟩ := cp19_5
  have hin19_5 : ¬ ((3 : Int32) < 0 ∨ cl19_5.slots.size ≤ ((3 : Int32)).toNatClampNeg) := inb_of Sa19_5 ⟨by decide, by decide⟩
  have hat19_5 : cl19_5.slots[((3 : Int32)).toNatClampNeg]? = some (.int x3) := Ha19_5.at hin19_5 rfl
  obtain ⟨fs, hr, hrun, hended, hW, hsame⟩ := X0.leave (v := some (.int (nar .boolean (((((0 : Int32) ||| x0) ||| x1) ||| x2) ||| x3)))) (fun h => by rw [Bd.returns] at h; cases h)
  refine ⟨_, _, pre0 _ ?_, hrun, hended, _, _, rfl, ?_, ⟨_, rfl⟩, hW, hsame.mono (by decide) (by decide)⟩
  · show Steps p.tables e below (s₁.setTop (mkF m 0 #[.val (.ref a1), .unset, .unset, .unset, .unset, .unset] [])) _
    refine XS.iconst X0.here hx rfl (hb hby d1_0) ?_
    show Steps p.tables e below (s₁.setTop (mkF m 1 #[.val (.ref a1), .unset, .unset, .unset, .unset, .unset] [(.int (0 : Int32))])) _
    refine XS.istoreN X0.here hx rfl (hb hby d1_1) rfl (l' := #[.val (.ref a1), .val (.int (0 : Int32)), .unset, .unset, .unset, .unset]) rfl ?_
    show Steps p.tables e below (s₁.setTop (mkF m 2 #[.val (.ref a1), .val (.int (0 : Int32)), .unset, .unset, .unset, .unset] [])) _
    refine XS.aloadN X0.here hx rfl (hb hby d1_2) rfl rfl ?_
    show Steps p.tables e below (s₁.setTop (mkF m 3 #[.val (.ref a1), .val (.int (0 : Int32)), .unset, .unset, .unset, .unset] [(.ref a1)])) _
    refine XS.astoreN X0.here hx rfl (hb hby d1_3) rfl rfl (l' := #[.val (.ref a1), .val (.int (0 : Int32)), .val (.ref a1), .unset, .unset, .unset]) rfl ?_
    show Steps p.tables e below (s₁.setTop (mkF m 4 #[.val (.ref a1), .val (.int (0 : Int32)), .val (.ref a1), .unset, .unset, .unset] [])) _
    refine XS.aloadN X0.here hx rfl (hb hby d1_4) rfl rfl ?_
    show Steps p.tables e below (s₁.setTop (mkF m 5 #[.val (.ref a1), .val (.int (0 : Int32)), .val (.ref a1), .unset, .unset, .unset] [(.ref a1)])) _
    refine X0.arraylength hx (by first | exact Ar5_1.1 | (rw [e0]; exact Ar5_1.1)) (State.isArrayOf_alike hZ.alike Ar5_1.2.1) (g := (mkF m 5 #[.val (.ref a1), .val (.int (0 : Int32)), .val (.ref a1), .unset, .unset, .unset] [(.ref a1)])) rfl rfl (hb hby d1_5) _ ?_
    rw [len_of Sa5_1 Na5_1]
    show Steps p.tables e below (s₁.setTop (mkF m 6 #[.val (.ref a1), .val (.int (0 : Int32)), .val (.ref a1), .unset, .unset, .unset] [(.int (4 : Int32))])) _
    refine XS.istoreN X0.here hx rfl (hb hby d1_6) rfl (l' := #[.val (.ref a1), .val (.int (0 : Int32)), .val (.ref a1), .val (.int (4 : Int32)), .unset, .unset]) rfl ?_
    show Steps p.tables e below (s₁.setTop (mkF m 7 #[.val (.ref a1), .val (.int (0 : Int32)), .val (.ref a1), .val (.int (4 : Int32)), .unset, .unset] [])) _
    refine XS.iconst X0.here hx rfl (hb hby d1_7) ?_
    show Steps p.tables e below (s₁.setTop (mkF m 8 #[.val (.ref a1), .val (.int (0 : Int32)), .val (.ref a1), .val (.int (4 : Int32)), .unset, .unset] [(.int (0 : Int32))])) _
    refine XS.istore X0.here hx rfl (hb hby d1_8) rfl (l' := #[.val (.ref a1), .val (.int (0 : Int32)), .val (.ref a1), .val (.int (4 : Int32)), .val (.int (0 : Int32)), .unset]) rfl ?_
    show Steps p.tables e below (s₁.setTop (mkF m 10 #[.val (.ref a1), .val (.int (0 : Int32)), .val (.ref a1), .val (.int (4 : Int32)), .val (.int (0 : Int32)), .unset] [])) _
    refine XS.iload X0.here hx rfl (hb hby d1_10) rfl ?_
    show Steps p.tables e below (s₁.setTop (mkF m 12 #[.val (.ref a1), .val (.int (0 : Int32)), .val (.ref a1), .val (.int (4 : Int32)), .val (.int (0 : Int32)), .unset] [(.int (0 : Int32))])) _
    refine XS.iloadN X0.here hx rfl (hb hby d1_12) rfl ?_
    show Steps p.tables e below (s₁.setTop (mkF m 13 #[.val (.ref a1), .val (.int (0 : Int32)), .val (.ref a1), .val (.int (4 : Int32)), .val (.int (0 : Int32)), .unset] [(.int (4 : Int32)), (.int (0 : Int32))])) _
    refine XS.icmpNo X0.here hx rfl (hb hby d1_13) rfl (tlt (by decide)).2.1 ?_
    show Steps p.tables e below (s₁.setTop (mkF m 16 #[.val (.ref a1), .val (.int (0 : Int32)), .val (.ref a1), .val (.int (4 : Int32)), .val (.int (0 : Int32)), .unset] [])) _
    refine XS.aloadN X0.here hx rfl (hb hby d1_16) rfl rfl ?_
    show Steps p.tables e below (s₁.setTop (mkF m 17 #[.val (.ref a1), .val (.int (0 : Int32)), .val (.ref a1), .val (.int (4 : Int32)), .val (.int (0 : Int32)), .unset] [(.ref a1)])) _
    refine XS.iload X0.here hx rfl (hb hby d1_17) rfl ?_
    show Steps p.tables e below (s₁.setTop (mkF m 19 #[.val (.ref a1), .val (.int (0 : Int32)), .val (.ref a1), .val (.int (4 : Int32)), .val (.int (0 : Int32)), .unset] [(.int (0 : Int32)), (.ref a1)])) _
    refine X0.baloadBooleans hx (j := (0 : Int32)) (v := (.int x0)) (by first | exact Ar19_2.1 | (rw [e0]; exact Ar19_2.1)) (State.isArrayOf_alike hZ.alike Ar19_2.2.1) Ar19_2.2.2 hin19_2 hat19_2 (g := (mkF m 19 #[.val (.ref a1), .val (.int (0 : Int32)), .val (.ref a1), .val (.int (4 : Int32)), .val (.int (0 : Int32)), .unset] [(.int (0 : Int32)), (.ref a1)])) rfl rfl (hb hby d1_19) _ ?_
    show Steps p.tables e below (s₁.setTop (mkF m 20 #[.val (.ref a1), .val (.int (0 : Int32)), .val (.ref a1), .val (.int (4 : Int32)), .val (.int (0 : Int32)), .unset] [(.int x0)])) _
    refine XS.istore X0.here hx rfl (hb hby d1_20) rfl (l' := #[.val (.ref a1), .val (.int (0 : Int32)), .val (.ref a1), .val (.int (4 : Int32)), .val (.int (0 : Int32)), .val (.int x0)]) rfl ?_
    show Steps p.tables e below (s₁.setTop (mkF m 22 #[.val (.ref a1), .val (.int (0 : Int32)), .val (.ref a1), .val (.int (4 : Int32)), .val (.int (0 : Int32)), .val (.int x0)] [])) _
    refine XS.iloadN X0.here hx rfl (hb hby d1_22) rfl ?_
    show Steps p.tables e below (s₁.setTop (mkF m 23 #[.val (.ref a1), .val (.int (0 : Int32)), .val (.ref a1), .val (.int (4 : Int32)), .val (.int (0 : Int32)), .val (.int x0)] [(.int (0 : Int32))])) _
    refine XS.iload X0.here hx rfl (hb hby d1_23) rfl ?_
    show Steps p.tables e below (s₁.setTop (mkF m 25 #[.val (.ref a1), .val (.int (0 : Int32)), .val (.ref a1), .val (.int (4 : Int32)), .val (.int (0 : Int32)), .val (.int x0)] [(.int x0), (.int (0 : Int32))])) _
    refine XS.ior X0.here hx rfl (hb hby d1_25) rfl ?_
    show Steps p.tables e below (s₁.setTop (mkF m 26 #[.val (.ref a1), .val (.int (0 : Int32)), .val (.ref a1), .val (.int (4 : Int32)), .val (.int (0 : Int32)), .val (.int x0)] [(.int ((0 : Int32) ||| x0))])) _
    refine XS.istoreN X0.here hx rfl (hb hby d1_26) rfl (l' := #[.val (.ref a1), .val (.int ((0 : Int32) ||| x0)), .val (.ref a1), .val (.int (4 : Int32)), .val (.int (0 : Int32)), .val (.int x0)]) rfl ?_
    show Steps p.tables e below (s₁.setTop (mkF m 27 #[.val (.ref a1), .val (.int ((0 : Int32) ||| x0)), .val (.ref a1), .val (.int (4 : Int32)), .val (.int (0 : Int32)), .val (.int x0)] [])) _
    refine XS.iinc X0.here hx rfl (hb hby d1_27) rfl (l' := #[.val (.ref a1), .val (.int ((0 : Int32) ||| x0)), .val (.ref a1), .val (.int (4 : Int32)), .val (.int (1 : Int32)), .val (.int x0)]) rfl ?_
    show Steps p.tables e below (s₁.setTop (mkF m 30 #[.val (.ref a1), .val (.int ((0 : Int32) ||| x0)), .val (.ref a1), .val (.int (4 : Int32)), .val (.int (1 : Int32)), .val (.int x0)] [])) _
    refine XS.goto X0.here hx rfl (pc0 := 30) (pc' := 10) rfl (hb hby d1_30) (by decide) (by decide) ?_
    show Steps p.tables e below (s₁.setTop (mkF m 10 #[.val (.ref a1), .val (.int ((0 : Int32) ||| x0)), .val (.ref a1), .val (.int (4 : Int32)), .val (.int (1 : Int32)), .val (.int x0)] [])) _
    refine XS.iload X0.here hx rfl (hb hby d1_10) rfl ?_
    show Steps p.tables e below (s₁.setTop (mkF m 12 #[.val (.ref a1), .val (.int ((0 : Int32) ||| x0)), .val (.ref a1), .val (.int (4 : Int32)), .val (.int (1 : Int32)), .val (.int x0)] [(.int (1 : Int32))])) _
    refine XS.iloadN X0.here hx rfl (hb hby d1_12) rfl ?_
    show Steps p.tables e below (s₁.setTop (mkF m 13 #[.val (.ref a1), .val (.int ((0 : Int32) ||| x0)), .val (.ref a1), .val (.int (4 : Int32)), .val (.int (1 : Int32)), .val (.int x0)] [(.int (4 : Int32)), (.int (1 : Int32))])) _
    refine XS.icmpNo X0.here hx rfl (hb hby d1_13) rfl (tlt (by decide)).2.1 ?_
    show Steps p.tables e below (s₁.setTop (mkF m 16 #[.val (.ref a1), .val (.int ((0 : Int32) ||| x0)), .val (.ref a1), .val (.int (4 : Int32)), .val (.int (1 : Int32)), .val (.int x0)] [])) _
    refine XS.aloadN X0.here hx rfl (hb hby d1_16) rfl rfl ?_
    show Steps p.tables e below (s₁.setTop (mkF m 17 #[.val (.ref a1), .val (.int ((0 : Int32) ||| x0)), .val (.ref a1), .val (.int (4 : Int32)), .val (.int (1 : Int32)), .val (.int x0)] [(.ref a1)])) _
    refine XS.iload X0.here hx rfl (hb hby d1_17) rfl ?_
    show Steps p.tables e below (s₁.setTop (mkF m 19 #[.val (.ref a1), .val (.int ((0 : Int32) ||| x0)), .val (.ref a1), .val (.int (4 : Int32)), .val (.int (1 : Int32)), .val (.int x0)] [(.int (1 : Int32)), (.ref a1)])) _
    refine X0.baloadBooleans hx (j := (1 : Int32)) (v := (.int x1)) (by first | exact Ar19_3.1 | (rw [e0]; exact Ar19_3.1)) (State.isArrayOf_alike hZ.alike Ar19_3.2.1) Ar19_3.2.2 hin19_3 hat19_3 (g := (mkF m 19 #[.val (.ref a1), .val (.int ((0 : Int32) ||| x0)), .val (.ref a1), .val (.int (4 : Int32)), .val (.int (1 : Int32)), .val (.int x0)] [(.int (1 : Int32)), (.ref a1)])) rfl rfl (hb hby d1_19) _ ?_
    show Steps p.tables e below (s₁.setTop (mkF m 20 #[.val (.ref a1), .val (.int ((0 : Int32) ||| x0)), .val (.ref a1), .val (.int (4 : Int32)), .val (.int (1 : Int32)), .val (.int x0)] [(.int x1)])) _
    refine XS.istore X0.here hx rfl (hb hby d1_20) rfl (l' := #[.val (.ref a1), .val (.int ((0 : Int32) ||| x0)), .val (.ref a1), .val (.int (4 : Int32)), .val (.int (1 : Int32)), .val (.int x1)]) rfl ?_
    show Steps p.tables e below (s₁.setTop (mkF m 22 #[.val (.ref a1), .val (.int ((0 : Int32) ||| x0)), .val (.ref a1), .val (.int (4 : Int32)), .val (.int (1 : Int32)), .val (.int x1)] [])) _
    refine XS.iloadN X0.here hx rfl (hb hby d1_22) rfl ?_
    show Steps p.tables e below (s₁.setTop (mkF m 23 #[.val (.ref a1), .val (.int ((0 : Int32) ||| x0)), .val (.ref a1), .val (.int (4 : Int32)), .val (.int (1 : Int32)), .val (.int x1)] [(.int ((0 : Int32) ||| x0))])) _
    refine XS.iload X0.here hx rfl (hb hby d1_23) rfl ?_
    show Steps p.tables e below (s₁.setTop (mkF m 25 #[.val (.ref a1), .val (.int ((0 : Int32) ||| x0)), .val (.ref a1), .val (.int (4 : Int32)), .val (.int (1 : Int32)), .val (.int x1)] [(.int x1), (.int ((0 : Int32) ||| x0))])) _
    refine XS.ior X0.here hx rfl (hb hby d1_25) rfl ?_
    show Steps p.tables e below (s₁.setTop (mkF m 26 #[.val (.ref a1), .val (.int ((0 : Int32) ||| x0)), .val (.ref a1), .val (.int (4 : Int32)), .val (.int (1 : Int32)), .val (.int x1)] [(.int (((0 : Int32) ||| x0) ||| x1))])) _
    refine XS.istoreN X0.here hx rfl (hb hby d1_26) rfl (l' := #[.val (.ref a1), .val (.int (((0 : Int32) ||| x0) ||| x1)), .val (.ref a1), .val (.int (4 : Int32)), .val (.int (1 : Int32)), .val (.int x1)]) rfl ?_
    show Steps p.tables e below (s₁.setTop (mkF m 27 #[.val (.ref a1), .val (.int (((0 : Int32) ||| x0) ||| x1)), .val (.ref a1), .val (.int (4 : Int32)), .val (.int (1 : Int32)), .val (.int x1)] [])) _
    refine XS.iinc X0.here hx rfl (hb hby d1_27) rfl (l' := #[.val (.ref a1), .val (.int (((0 : Int32) ||| x0) ||| x1)), .val (.ref a1), .val (.int (4 : Int32)), .val (.int (2 : Int32)), .val (.int x1)]) rfl ?_
    show Steps p.tables e below (s₁.setTop (mkF m 30 #[.val (.ref a1), .val (.int (((0 : Int32) ||| x0) ||| x1)), .val (.ref a1), .val (.int (4 : Int32)), .val (.int (2 : Int32)), .val (.int x1)] [])) _
    refine XS.goto X0.here hx rfl (pc0 := 30) (pc' := 10) rfl (hb hby d1_30) (by decide) (by decide) ?_
    show Steps p.tables e below (s₁.setTop (mkF m 10 #[.val (.ref a1), .val (.int (((0 : Int32) ||| x0) ||| x1)), .val (.ref a1), .val (.int (4 : Int32)), .val (.int (2 : Int32)), .val (.int x1)] [])) _
    refine XS.iload X0.here hx rfl (hb hby d1_10) rfl ?_
    show Steps p.tables e below (s₁.setTop (mkF m 12 #[.val (.ref a1), .val (.int (((0 : Int32) ||| x0) ||| x1)), .val (.ref a1), .val (.int (4 : Int32)), .val (.int (2 : Int32)), .val (.int x1)] [(.int (2 : Int32))])) _
    refine XS.iloadN X0.here hx rfl (hb hby d1_12) rfl ?_
    show Steps p.tables e below (s₁.setTop (mkF m 13 #[.val (.ref a1), .val (.int (((0 : Int32) ||| x0) ||| x1)), .val (.ref a1), .val (.int (4 : Int32)), .val (.int (2 : Int32)), .val (.int x1)] [(.int (4 : Int32)), (.int (2 : Int32))])) _
    refine XS.icmpNo X0.here hx rfl (hb hby d1_13) rfl (tlt (by decide)).2.1 ?_
    show Steps p.tables e below (s₁.setTop (mkF m 16 #[.val (.ref a1), .val (.int (((0 : Int32) ||| x0) ||| x1)), .val (.ref a1), .val (.int (4 : Int32)), .val (.int (2 : Int32)), .val (.int x1)] [])) _
    refine XS.aloadN X0.here hx rfl (hb hby d1_16) rfl rfl ?_
    show Steps p.tables e below (s₁.setTop (mkF m 17 #[.val (.ref a1), .val (.int (((0 : Int32) ||| x0) ||| x1)), .val (.ref a1), .val (.int (4 : Int32)), .val (.int (2 : Int32)), .val (.int x1)] [(.ref a1)])) _
    refine XS.iload X0.here hx rfl (hb hby d1_17) rfl ?_
    show Steps p.tables e below (s₁.setTop (mkF m 19 #[.val (.ref a1), .val (.int (((0 : Int32) ||| x0) ||| x1)), .val (.ref a1), .val (.int (4 : Int32)), .val (.int (2 : Int32)), .val (.int x1)] [(.int (2 : Int32)), (.ref a1)])) _
    refine X0.baloadBooleans hx (j := (2 : Int32)) (v := (.int x2)) (by first | exact Ar19_4.1 | (rw [e0]; exact Ar19_4.1)) (State.isArrayOf_alike hZ.alike Ar19_4.2.1) Ar19_4.2.2 hin19_4 hat19_4 (g := (mkF m 19 #[.val (.ref a1), .val (.int (((0 : Int32) ||| x0) ||| x1)), .val (.ref a1), .val (.int (4 : Int32)), .val (.int (2 : Int32)), .val (.int x1)] [(.int (2 : Int32)), (.ref a1)])) rfl rfl (hb hby d1_19) _ ?_
    show Steps p.tables e below (s₁.setTop (mkF m 20 #[.val (.ref a1), .val (.int (((0 : Int32) ||| x0) ||| x1)), .val (.ref a1), .val (.int (4 : Int32)), .val (.int (2 : Int32)), .val (.int x1)] [(.int x2)])) _
    refine XS.istore X0.here hx rfl (hb hby d1_20) rfl (l' := #[.val (.ref a1), .val (.int (((0 : Int32) ||| x0) ||| x1)), .val (.ref a1), .val (.int (4 : Int32)), .val (.int (2 : Int32)), .val (.int x2)]) rfl ?_
    show Steps p.tables e below (s₁.setTop (mkF m 22 #[.val (.ref a1), .val (.int (((0 : Int32) ||| x0) ||| x1)), .val (.ref a1), .val (.int (4 : Int32)), .val (.int (2 : Int32)), .val (.int x2)] [])) _
    refine XS.iloadN X0.here hx rfl (hb hby d1_22) rfl ?_
    show Steps p.tables e below (s₁.setTop (mkF m 23 #[.val (.ref a1), .val (.int (((0 : Int32) ||| x0) ||| x1)), .val (.ref a1), .val (.int (4 : Int32)), .val (.int (2 : Int32)), .val (.int x2)] [(.int (((0 : Int32) ||| x0) ||| x1))])) _
    refine XS.iload X0.here hx rfl (hb hby d1_23) rfl ?_
    show Steps p.tables e below (s₁.setTop (mkF m 25 #[.val (.ref a1), .val (.int (((0 : Int32) ||| x0) ||| x1)), .val (.ref a1), .val (.int (4 : Int32)), .val (.int (2 : Int32)), .val (.int x2)] [(.int x2), (.int (((0 : Int32) ||| x0) ||| x1))])) _
    refine XS.ior X0.here hx rfl (hb hby d1_25) rfl ?_
    show Steps p.tables e below (s₁.setTop (mkF m 26 #[.val (.ref a1), .val (.int (((0 : Int32) ||| x0) ||| x1)), .val (.ref a1), .val (.int (4 : Int32)), .val (.int (2 : Int32)), .val (.int x2)] [(.int ((((0 : Int32) ||| x0) ||| x1) ||| x2))])) _
    refine XS.istoreN X0.here hx rfl (hb hby d1_26) rfl (l' := #[.val (.ref a1), .val (.int ((((0 : Int32) ||| x0) ||| x1) ||| x2)), .val (.ref a1), .val (.int (4 : Int32)), .val (.int (2 : Int32)), .val (.int x2)]) rfl ?_
    show Steps p.tables e below (s₁.setTop (mkF m 27 #[.val (.ref a1), .val (.int ((((0 : Int32) ||| x0) ||| x1) ||| x2)), .val (.ref a1), .val (.int (4 : Int32)), .val (.int (2 : Int32)), .val (.int x2)] [])) _
    refine XS.iinc X0.here hx rfl (hb hby d1_27) rfl (l' := #[.val (.ref a1), .val (.int ((((0 : Int32) ||| x0) ||| x1) ||| x2)), .val (.ref a1), .val (.int (4 : Int32)), .val (.int (3 : Int32)), .val (.int x2)]) rfl ?_
    show Steps p.tables e below (s₁.setTop (mkF m 30 #[.val (.ref a1), .val (.int ((((0 : Int32) ||| x0) ||| x1) ||| x2)), .val (.ref a1), .val (.int (4 : Int32)), .val (.int (3 : Int32)), .val (.int x2)] [])) _
    refine XS.goto X0.here hx rfl (pc0 := 30) (pc' := 10) rfl (hb hby d1_30) (by decide) (by decide) ?_
    show Steps p.tables e below (s₁.setTop (mkF m 10 #[.val (.ref a1), .val (.int ((((0 : Int32) ||| x0) ||| x1) ||| x2)), .val (.ref a1), .val (.int (4 : Int32)), .val (.int (3 : Int32)), .val (.int x2)] [])) _
    refine XS.iload X0.here hx rfl (hb hby d1_10) rfl ?_
    show Steps p.tables e below (s₁.setTop (mkF m 12 #[.val (.ref a1), .val (.int ((((0 : Int32) ||| x0) ||| x1) ||| x2)), .val (.ref a1), .val (.int (4 : Int32)), .val (.int (3 : Int32)), .val (.int x2)] [(.int (3 : Int32))])) _
    refine XS.iloadN X0.here hx rfl (hb hby d1_12) rfl ?_
    show Steps p.tables e below (s₁.setTop (mkF m 13 #[.val (.ref a1), .val (.int ((((0 : Int32) ||| x0) ||| x1) ||| x2)), .val (.ref a1), .val (.int (4 : Int32)), .val (.int (3 : Int32)), .val (.int x2)] [(.int (4 : Int32)), (.int (3 : Int32))])) _
    refine XS.icmpNo X0.here hx rfl (hb hby d1_13) rfl (tlt (by decide)).2.1 ?_
    show Steps p.tables e below (s₁.setTop (mkF m 16 #[.val (.ref a1), .val (.int ((((0 : Int32) ||| x0) ||| x1) ||| x2)), .val (.ref a1), .val (.int (4 : Int32)), .val (.int (3 : Int32)), .val (.int x2)] [])) _
    refine XS.aloadN X0.here hx rfl (hb hby d1_16) rfl rfl ?_
    show Steps p.tables e below (s₁.setTop (mkF m 17 #[.val (.ref a1), .val (.int ((((0 : Int32) ||| x0) ||| x1) ||| x2)), .val (.ref a1), .val (.int (4 : Int32)), .val (.int (3 : Int32)), .val (.int x2)] [(.ref a1)])) _
    refine XS.iload X0.here hx rfl (hb hby d1_17) rfl ?_
    show Steps p.tables e below (s₁.setTop (mkF m 19 #[.val (.ref a1), .val (.int ((((0 : Int32) ||| x0) ||| x1) ||| x2)), .val (.ref a1), .val (.int (4 : Int32)), .val (.int (3 : Int32)), .val (.int x2)] [(.int (3 : Int32)), (.ref a1)])) _
    refine X0.baloadBooleans hx (j := (3 : Int32)) (v := (.int x3)) (by first | exact Ar19_5.1 | (rw [e0]; exact Ar19_5.1)) (State.isArrayOf_alike hZ.alike Ar19_5.2.1) Ar19_5.2.2 hin19_5 hat19_5 (g := (mkF m 19 #[.val (.ref a1), .val (.int ((((0 : Int32) ||| x0) ||| x1) ||| x2)), .val (.ref a1), .val (.int (4 : Int32)), .val (.int (3 : Int32)), .val (.int x2)] [(.int (3 : Int32)), (.ref a1)])) rfl rfl (hb hby d1_19) _ ?_
    show Steps p.tables e below (s₁.setTop (mkF m 20 #[.val (.ref a1), .val (.int ((((0 : Int32) ||| x0) ||| x1) ||| x2)), .val (.ref a1), .val (.int (4 : Int32)), .val (.int (3 : Int32)), .val (.int x2)] [(.int x3)])) _
    refine XS.istore X0.here hx rfl (hb hby d1_20) rfl (l' := #[.val (.ref a1), .val (.int ((((0 : Int32) ||| x0) ||| x1) ||| x2)), .val (.ref a1), .val (.int (4 : Int32)), .val (.int (3 : Int32)), .val (.int x3)]) rfl ?_
    show Steps p.tables e below (s₁.setTop (mkF m 22 #[.val (.ref a1), .val (.int ((((0 : Int32) ||| x0) ||| x1) ||| x2)), .val (.ref a1), .val (.int (4 : Int32)), .val (.int (3 : Int32)), .val (.int x3)] [])) _
    refine XS.iloadN X0.here hx rfl (hb hby d1_22) rfl ?_
    show Steps p.tables e below (s₁.setTop (mkF m 23 #[.val (.ref a1), .val (.int ((((0 : Int32) ||| x0) ||| x1) ||| x2)), .val (.ref a1), .val (.int (4 : Int32)), .val (.int (3 : Int32)), .val (.int x3)] [(.int ((((0 : Int32) ||| x0) ||| x1) ||| x2))])) _
    refine XS.iload X0.here hx rfl (hb hby d1_23) rfl ?_
    show Steps p.tables e below (s₁.setTop (mkF m 25 #[.val (.ref a1), .val (.int ((((0 : Int32) ||| x0) ||| x1) ||| x2)), .val (.ref a1), .val (.int (4 : Int32)), .val (.int (3 : Int32)), .val (.int x3)] [(.int x3), (.int ((((0 : Int32) ||| x0) ||| x1) ||| x2))])) _
    refine XS.ior X0.here hx rfl (hb hby d1_25) rfl ?_
    show Steps p.tables e below (s₁.setTop (mkF m 26 #[.val (.ref a1), .val (.int ((((0 : Int32) ||| x0) ||| x1) ||| x2)), .val (.ref a1), .val (.int (4 : Int32)), .val (.int (3 : Int32)), .val (.int x3)] [(.int (((((0 : Int32) ||| x0) ||| x1) ||| x2) ||| x3))])) _
    refine XS.istoreN X0.here hx rfl (hb hby d1_26) rfl (l' := #[.val (.ref a1), .val (.int (((((0 : Int32) ||| x0) ||| x1) ||| x2) ||| x3)), .val (.ref a1), .val (.int (4 : Int32)), .val (.int (3 : Int32)), .val (.int x3)]) rfl ?_
    show Steps p.tables e below (s₁.setTop (mkF m 27 #[.val (.ref a1), .val (.int (((((0 : Int32) ||| x0) ||| x1) ||| x2) ||| x3)), .val (.ref a1), .val (.int (4 : Int32)), .val (.int (3 : Int32)), .val (.int x3)] [])) _
    refine XS.iinc X0.here hx rfl (hb hby d1_27) rfl (l' := #[.val (.ref a1), .val (.int (((((0 : Int32) ||| x0) ||| x1) ||| x2) ||| x3)), .val (.ref a1), .val (.int (4 : Int32)), .val (.int (4 : Int32)), .val (.int x3)]) rfl ?_
    show Steps p.tables e below (s₁.setTop (mkF m 30 #[.val (.ref a1), .val (.int (((((0 : Int32) ||| x0) ||| x1) ||| x2) ||| x3)), .val (.ref a1), .val (.int (4 : Int32)), .val (.int (4 : Int32)), .val (.int x3)] [])) _
    refine XS.goto X0.here hx rfl (pc0 := 30) (pc' := 10) rfl (hb hby d1_30) (by decide) (by decide) ?_
    show Steps p.tables e below (s₁.setTop (mkF m 10 #[.val (.ref a1), .val (.int (((((0 : Int32) ||| x0) ||| x1) ||| x2) ||| x3)), .val (.ref a1), .val (.int (4 : Int32)), .val (.int (4 : Int32)), .val (.int x3)] [])) _
    refine XS.iload X0.here hx rfl (hb hby d1_10) rfl ?_
    show Steps p.tables e below (s₁.setTop (mkF m 12 #[.val (.ref a1), .val (.int (((((0 : Int32) ||| x0) ||| x1) ||| x2) ||| x3)), .val (.ref a1), .val (.int (4 : Int32)), .val (.int (4 : Int32)), .val (.int x3)] [(.int (4 : Int32))])) _
    refine XS.iloadN X0.here hx rfl (hb hby d1_12) rfl ?_
    show Steps p.tables e below (s₁.setTop (mkF m 13 #[.val (.ref a1), .val (.int (((((0 : Int32) ||| x0) ||| x1) ||| x2) ||| x3)), .val (.ref a1), .val (.int (4 : Int32)), .val (.int (4 : Int32)), .val (.int x3)] [(.int (4 : Int32)), (.int (4 : Int32))])) _
    refine XS.icmpYes X0.here hx rfl (pc0 := 13) (pc' := 33) rfl (hb hby d1_13) rfl (flt (by decide)).2.1 (by decide) (by decide) ?_
    show Steps p.tables e below (s₁.setTop (mkF m 33 #[.val (.ref a1), .val (.int (((((0 : Int32) ||| x0) ||| x1) ||| x2) ||| x3)), .val (.ref a1), .val (.int (4 : Int32)), .val (.int (4 : Int32)), .val (.int x3)] [])) _
    refine XS.iloadN X0.here hx rfl (hb hby d1_33) rfl ?_
    show Steps p.tables e below (s₁.setTop (mkF m 34 #[.val (.ref a1), .val (.int (((((0 : Int32) ||| x0) ||| x1) ||| x2) ||| x3)), .val (.ref a1), .val (.int (4 : Int32)), .val (.int (4 : Int32)), .val (.int x3)] [(.int (((((0 : Int32) ||| x0) ||| x1) ||| x2) ||| x3))])) _
    exact retN X0 hx (t := .boolean) Bd.returns (by simp) (hb hby d1_34) hr
  · show Q1n4 Z a1 kk x0 x1 x2 x3 h0 n0 _ s₁.heap _
    rw [e0]
    have hv : (own_any4 x0 x1 x2 x3) = (nar .boolean (((((0 : Int32) ||| x0) ||| x1) ||| x2) ||| x3)) := by unfold own_any4; rfl
    exact ⟨by rw [hv], N0, rfl⟩
theorem pn1n5 : plainName "com/example/braided_tour/braidedtour/choice/Logit" = true := by first | (simp [plainName, overriddenIn]; done) | decide +kernel
theorem ef1n5 (m : MethodId) (a1 : Addr) : entryFrame m #[(.ref a1)] 6 = mkF m 0 #[.val (.ref a1), .unset, .unset, .unset, .unset, .unset] [] := by first | (simp [entryFrame, mkF, argsToLocals, Value.category]; done) | rfl
def own_any5 (x0 : Int32) (x1 : Int32) (x2 : Int32) (x3 : Int32) (x4 : Int32) : Int32 := (nar .boolean ((((((0 : Int32) ||| x0) ||| x1) ||| x2) ||| x3) ||| x4))
def Q1n5 (Z : State) (a1 : Addr) (kk : ClassId) (x0 : Int32) (x1 : Int32) (x2 : Int32) (x3 : Int32) (x4 : Int32) (h0 : Heap) (n0 : Nat) (v : Option Value) (h : Heap) (L : List Loc) : Prop := v = some (.int (own_any5 x0 x1 x2 x3 x4)) ∧ Fr n0 L ∧ h = h0
set_option maxRecDepth 65536 in
set_option maxHeartbeats 40000000 in
theorem rm1n5 (l : Launch) (Z : State) (a0 : Array Value) (hw : ∀ d ∈ tables_1, d.before a0 Z = true) (ws : List Jvm.Cond) (a1 : Addr) (kk : ClassId) (x0 : Int32) (x1 : Int32) (x2 : Int32) (x3 : Int32) (x4 : Int32) (h0 : Heap) (n0 : Nat) (Z0 : n0 ≤ h0.size) (V0 : Arv Z h0 a1 kk .boolean (5 : Int32) [(.int x0), (.int x1), (.int x2), (.int x3), (.int x4)] (.int (0 : Int32))) :
    MetFree l (⟨"com/example/braided_tour/braidedtour/choice/Logit", "anyAvailable", "([Z)Z"⟩ : MethodName) (head1 (Jvm.Cond.code (⟨"com/example/braided_tour/braidedtour/choice/Logit", "anyAvailable", "([Z)Z"⟩ : MethodName) prog_7_method_3_code 6 (some .boolean) :: ws) ({ frames := 0, cells := 0, slots := 0, locals := 0 } : Room)) (fun a U => a = #[(.ref a1)] ∧ Z.Warmed39 U.vm ∧ U.heap = h0) (fun _ _ _ _ _ => True) (fun _ U o U' => ∃ v L, o = .returned v ∧ Q1n5 Z a1 kk x0 x1 x2 x3 x4 h0 n0 v U'.heap L ∧ FrameEnd U o U' L ({ frames := 0, cells := 0, slots := 0, locals := 0 } : Room).cells ({ frames := 0, cells := 0, slots := 0, locals := 0 } : Room).slots) := by
  refine MetFree.of_bodySF (plainFor_of_name pn1n5) hisR ?_
  intro p e s m args below meth c s₁ Bd hml0 hP hK
  obtain ⟨rfl, hZ, hh⟩ := hP
  have hx := Bd.exec
  have hby := Bd.bytes
  have hml : c.maxLocals = 6 := hml0
  have hown : s.vm.findClass "com/example/braided_tour/braidedtour/choice/Logit" = some m.cls := findClass_of_methodNamed Bd.named
  have hnm := (name_of_methodNamed Bd.named Bd.method).1
  have X0 : Stand p l e ({ frames := 0, cells := 0, slots := 0, locals := 0 } : Room) s m #[(.ref a1)] below meth c s₁ [] 0 0 := Stand.of_body Bd
  have e0 : s₁.heap = h0 := by rw [← hh, Bd.state]; rfl
  have N0 := Fr.nil n0
  have pre0 : ∀ t, Steps p.tables e below (s₁.setTop (mkF m 0 #[.val (.ref a1), .unset, .unset, .unset, .unset, .unset] [])) t → Steps p.tables e below (s₁.setTop (entryFrame m #[(.ref a1)] 6)) t := fun t k => castTop (ef1n5 m a1) k
  have cp5_1 := V0
  obtain ⟨cl5_1, Ar5_1, -, Sa5_1, Na5_1, -, -⟩ := cp5_1
  have cp19_2 := V0
  obtain ⟨cl19_2, Ar19_2, -, Sa19_2, Na19_2, Ha19_2, -⟩ := cp19_2
  have hin19_2 : ¬ ((0 : Int32) < 0 ∨ cl19_2.slots.size ≤ ((0 : Int32)).toNatClampNeg) := inb_of Sa19_2 ⟨by decide, by decide⟩
  have hat19_2 : cl19_2.slots[((0 : Int32)).toNatClampNeg]? = some (.int x0) := Ha19_2.at hin19_2 rfl
  have cp19_3 := V0
  obtain ⟨cl19_3, Ar19_3, -, Sa19_3, Na19_3, Ha19_3, -⟩ := cp19_3
  have hin19_3 : ¬ ((1 : Int32) < 0 ∨ cl19_3.slots.size ≤ ((1 : Int32)).toNatClampNeg) := inb_of Sa19_3 ⟨by decide, by decide⟩
  have hat19_3 : cl19_3.slots[((1 : Int32)).toNatClampNeg]? = some (.int x1) := Ha19_3.at hin19_3 rfl
  have cp19_4 := V0
  obtain ⟨cl19_4, Ar19_4, -, Sa19_4, Na19_4, Ha19_4, -⟩ := cp19_4
  have hin19_4 : ¬ ((2 : Int32) < 0 ∨ cl19_4.slots.size ≤ ((2 : Int32)).toNatClampNeg) := inb_of Sa19_4 ⟨by decide, by decide⟩
  have hat19_4 : cl19_4.slots[((2 : Int32)).toNatClampNeg]? = some (.int x2) := Ha19_4.at hin19_4 rfl
  have cp19_5 := V0
  obtain ⟨cl19_5, Ar19_5, -, Sa19_5, Na19_5, Ha19_5, -⟩ := cp19_5
  have hin19_5 : ¬ ((3 : Int32) < 0 ∨ cl19_5.slots.size ≤ ((3 : Int32)).toNatClampNeg) := inb_of Sa19_5 ⟨by decide, by decide⟩
  have hat19_5 : cl19_5.slots[((3 : Int32)).toNatClampNeg]? = some (.int x3) := Ha19_5.at hin19_5 rfl
  have cp19_6 := V0
  obtain ⟨cl19_6, Ar19_6, -, Sa19_6, Na19_6, Ha19_6, -⟩ := cp19_6
  have hin19_6 : ¬ ((4 : Int32) < 0 ∨ cl19_6.slots.size ≤ ((4 : Int32)).toNatClampNeg) := inb_of Sa19_6 ⟨by decide, by decide⟩
  have hat19_6 : cl19_6.slots[((4 : Int32)).toNatClampNeg]? = some (.int x4) := Ha19_6.at hin19_6 rfl
  obtain ⟨fs, hr, hrun, hended, hW, hsame⟩ := X0.leave (v := some (.int (nar .boolean ((((((0 : Int32) ||| x0) ||| x1) ||| x2) ||| x3) ||| x4)))) (fun h => by rw [Bd.returns] at h; cases h)
  refine ⟨_, _, pre0 _ ?_, hrun, hended, _, _, rfl, ?_, ⟨_, rfl⟩, hW, hsame.mono (by decide) (by decide)⟩
  · show Steps p.tables e below (s₁.setTop (mkF m 0 #[.val (.ref a1), .unset, .unset, .unset, .unset, .unset] [])) _
    refine XS.iconst X0.here hx rfl (hb hby d1_0) ?_
    show Steps p.tables e below (s₁.setTop (mkF m 1 #[.val (.ref a1), .unset, .unset, .unset, .unset, .unset] [(.int (0 : Int32))])) _
    refine XS.istoreN X0.here hx rfl (hb hby d1_1) rfl (l' := #[.val (.ref a1), .val (.int (0 : Int32)), .unset, .unset, .unset, .unset]) rfl ?_
    show Steps p.tables e below (s₁.setTop (mkF m 2 #[.val (.ref a1), .val (.int (0 : Int32)), .unset, .unset, .unset, .unset] [])) _
    refine XS.aloadN X0.here hx rfl (hb hby d1_2) rfl rfl ?_
    show Steps p.tables e below (s₁.setTop (mkF m 3 #[.val (.ref a1), .val (.int (0 : Int32)), .unset, .unset, .unset, .unset] [(.ref a1)])) _
    refine XS.astoreN X0.here hx rfl (hb hby d1_3) rfl rfl (l' := #[.val (.ref a1), .val (.int (0 : Int32)), .val (.ref a1), .unset, .unset, .unset]) rfl ?_
    show Steps p.tables e below (s₁.setTop (mkF m 4 #[.val (.ref a1), .val (.int (0 : Int32)), .val (.ref a1), .unset, .unset, .unset] [])) _
    refine XS.aloadN X0.here hx rfl (hb hby d1_4) rfl rfl ?_
    show Steps p.tables e below (s₁.setTop (mkF m 5 #[.val (.ref a1), .val (.int (0 : Int32)), .val (.ref a1), .unset, .unset, .unset] [(.ref a1)])) _
    refine X0.arraylength hx (by first | exact Ar5_1.1 | (rw [e0]; exact Ar5_1.1)) (State.isArrayOf_alike hZ.alike Ar5_1.2.1) (g := (mkF m 5 #[.val (.ref a1), .val (.int (0 : Int32)), .val (.ref a1), .unset, .unset, .unset] [(.ref a1)])) rfl rfl (hb hby d1_5) _ ?_
    rw [len_of Sa5_1 Na5_1]
    show Steps p.tables e below (s₁.setTop (mkF m 6 #[.val (.ref a1), .val (.int (0 : Int32)), .val (.ref a1), .unset, .unset, .unset] [(.int (5 : Int32))])) _
    refine XS.istoreN X0.here hx rfl (hb hby d1_6) rfl (l' := #[.val (.ref a1), .val (.int (0 : Int32)), .val (.ref a1), .val (.int (5 : Int32)), .unset, .unset]) rfl ?_
    show Steps p.tables e below (s₁.setTop (mkF m 7 #[.val (.ref a1), .val (.int (0 : Int32)), .val (.ref a1), .val (.int (5 : Int32)), .unset, .unset] [])) _
    refine XS.iconst X0.here hx rfl (hb hby d1_7) ?_
    show Steps p.tables e below (s₁.setTop (mkF m 8 #[.val (.ref a1), .val (.int (0 : Int32)), .val (.ref a1), .val (.int (5 : Int32)), .unset, .unset] [(.int (0 : Int32))])) _
    refine XS.istore X0.here hx rfl (hb hby d1_8) rfl (l' := #[.val (.ref a1), .val (.int (0 : Int32)), .val (.ref a1), .val (.int (5 : Int32)), .val (.int (0 : Int32)), .unset]) rfl ?_
    show Steps p.tables e below (s₁.setTop (mkF m 10 #[.val (.ref a1), .val (.int (0 : Int32)), .val (.ref a1), .val (.int (5 : Int32)), .val (.int (0 : Int32)), .unset] [])) _
    refine XS.iload X0.here hx rfl (hb hby d1_10) rfl ?_
    show Steps p.tables e below (s₁.setTop (mkF m 12 #[.val (.ref a1), .val (.int (0 : Int32)), .val (.ref a1), .val (.int (5 : Int32)), .val (.int (0 : Int32)), .unset] [(.int (0 : Int32))])) _
    refine XS.iloadN X0.here hx rfl (hb hby d1_12) rfl ?_
    show Steps p.tables e below (s₁.setTop (mkF m 13 #[.val (.ref a1), .val (.int (0 : Int32)), .val (.ref a1), .val (.int (5 : Int32)), .val (.int (0 : Int32)), .unset] [(.int (5 : Int32)), (.int (0 : Int32))])) _
    refine XS.icmpNo X0.here hx rfl (hb hby d1_13) rfl (tlt (by decide)).2.1 ?_
    show Steps p.tables e below (s₁.setTop (mkF m 16 #[.val (.ref a1), .val (.int (0 : Int32)), .val (.ref a1), .val (.int (5 : Int32)), .val (.int (0 : Int32)), .unset] [])) _
    refine XS.aloadN X0.here hx rfl (hb hby d1_16) rfl rfl ?_
    show Steps p.tables e below (s₁.setTop (mkF m 17 #[.val (.ref a1), .val (.int (0 : Int32)), .val (.ref a1), .val (.int (5 : Int32)), .val (.int (0 : Int32)), .unset] [(.ref a1)])) _
    refine XS.iload X0.here hx rfl (hb hby d1_17) rfl ?_
    show Steps p.tables e below (s₁.setTop (mkF m 19 #[.val (.ref a1), .val (.int (0 : Int32)), .val (.ref a1), .val (.int (5 : Int32)), .val (.int (0 : Int32)), .unset] [(.int (0 : Int32)), (.ref a1)])) _
    refine X0.baloadBooleans hx (j := (0 : Int32)) (v := (.int x0)) (by first | exact Ar19_2.1 | (rw [e0]; exact Ar19_2.1)) (State.isArrayOf_alike hZ.alike Ar19_2.2.1) Ar19_2.2.2 hin19_2 hat19_2 (g := (mkF m 19 #[.val (.ref a1), .val (.int (0 : Int32)), .val (.ref a1), .val (.int (5 : Int32)), .val (.int (0 : Int32)), .unset] [(.int (0 : Int32)), (.ref a1)])) rfl rfl (hb hby d1_19) _ ?_
    show Steps p.tables e below (s₁.setTop (mkF m 20 #[.val (.ref a1), .val (.int (0 : Int32)), .val (.ref a1), .val (.int (5 : Int32)), .val (.int (0 : Int32)), .unset] [(.int x0)])) _
    refine XS.istore X0.here hx rfl (hb hby d1_20) rfl (l' := #[.val (.ref a1), .val (.int (0 : Int32)), .val (.ref a1), .val (.int (5 : Int32)), .val (.int (0 : Int32)), .val (.int x0)]) rfl ?_
    show Steps p.tables e below (s₁.setTop (mkF m 22 #[.val (.ref a1), .val (.int (0 : Int32)), .val (.ref a1), .val (.int (5 : Int32)), .val (.int (0 : Int32)), .val (.int x0)] [])) _
    refine XS.iloadN X0.here hx rfl (hb hby d1_22) rfl ?_
    show Steps p.tables e below (s₁.setTop (mkF m 23 #[.val (.ref a1), .val (.int (0 : Int32)), .val (.ref a1), .val (.int (5 : Int32)), .val (.int (0 : Int32)), .val (.int x0)] [(.int (0 : Int32))])) _
    refine XS.iload X0.here hx rfl (hb hby d1_23) rfl ?_
    show Steps p.tables e below (s₁.setTop (mkF m 25 #[.val (.ref a1), .val (.int (0 : Int32)), .val (.ref a1), .val (.int (5 : Int32)), .val (.int (0 : Int32)), .val (.int x0)] [(.int x0), (.int (0 : Int32))])) _
    refine XS.ior X0.here hx rfl (hb hby d1_25) rfl ?_
    show Steps p.tables e below (s₁.setTop (mkF m 26 #[.val (.ref a1), .val (.int (0 : Int32)), .val (.ref a1), .val (.int (5 : Int32)), .val (.int (0 : Int32)), .val (.int x0)] [(.int ((0 : Int32) ||| x0))])) _
    refine XS.istoreN X0.here hx rfl (hb hby d1_26) rfl (l' := #[.val (.ref a1), .val (.int ((0 : Int32) ||| x0)), .val (.ref a1), .val (.int (5 : Int32)), .val (.int (0 : Int32)), .val (.int x0)]) rfl ?_
    show Steps p.tables e below (s₁.setTop (mkF m 27 #[.val (.ref a1), .val (.int ((0 : Int32) ||| x0)), .val (.ref a1), .val (.int (5 : Int32)), .val (.int (0 : Int32)), .val (.int x0)] [])) _
    refine XS.iinc X0.here hx rfl (hb hby d1_27) rfl (l' := #[.val (.ref a1), .val (.int ((0 : Int32) ||| x0)), .val (.ref a1), .val (.int (5 : Int32)), .val (.int (1 : Int32)), .val (.int x0)]) rfl ?_
    show Steps p.tables e below (s₁.setTop (mkF m 30 #[.val (.ref a1), .val (.int ((0 : Int32) ||| x0)), .val (.ref a1), .val (.int (5 : Int32)), .val (.int (1 : Int32)), .val (.int x0)] [])) _
    refine XS.goto X0.here hx rfl (pc0 := 30) (pc' := 10) rfl (hb hby d1_30) (by decide) (by decide) ?_
    show Steps p.tables e below (s₁.setTop (mkF m 10 #[.val (.ref a1), .val (.int ((0 : Int32) ||| x0)), .val (.ref a1), .val (.int (5 : Int32)), .val (.int (1 : Int32)), .val (.int x0)] [])) _
    refine XS.iload X0.here hx rfl (hb hby d1_10) rfl ?_
    show Steps p.tables e below (s₁.setTop (mkF m 12 #[.val (.ref a1), .val (.int ((0 : Int32) ||| x0)), .val (.ref a1), .val (.int (5 : Int32)), .val (.int (1 : Int32)), .val (.int x0)] [(.int (1 : Int32))])) _
    refine XS.iloadN X0.here hx rfl (hb hby d1_12) rfl ?_
    show Steps p.tables e below (s₁.setTop (mkF m 13 #[.val (.ref a1), .val (.int ((0 : Int32) ||| x0)), .val (.ref a1), .val (.int (5 : Int32)), .val (.int (1 : Int32)), .val (.int x0)] [(.int (5 : Int32)), (.int (1 : Int32))])) _
    refine XS.icmpNo X0.here hx rfl (hb hby d1_13) rfl (tlt (by decide)).2.1 ?_
    show Steps p.tables e below (s₁.setTop (mkF m 16 #[.val (.ref a1), .val (.int ((0 : Int32) ||| x0)), .val (.ref a1), .val (.int (5 : Int32)), .val (.int (1 : Int32)), .val (.int x0)] [])) _
    refine XS.aloadN X0.here hx rfl (hb hby d1_16) rfl rfl ?_
    show Steps p.tables e below (s₁.setTop (mkF m 17 #[.val (.ref a1), .val (.int ((0 : Int32) ||| x0)), .val (.ref a1), .val (.int (5 : Int32)), .val (.int (1 : Int32)), .val (.int x0)] [(.ref a1)])) _
    refine XS.iload X0.here hx rfl (hb hby d1_17) rfl ?_
    show Steps p.tables e below (s₁.setTop (mkF m 19 #[.val (.ref a1), .val (.int ((0 : Int32) ||| x0)), .val (.ref a1), .val (.int (5 : Int32)), .val (.int (1 : Int32)), .val (.int x0)] [(.int (1 : Int32)), (.ref a1)])) _
    refine X0.baloadBooleans hx (j := (1 : Int32)) (v := (.int x1)) (by first | exact Ar19_3.1 | (rw [e0]; exact Ar19_3.1)) (State.isArrayOf_alike hZ.alike Ar19_3.2.1) Ar19_3.2.2 hin19_3 hat19_3 (g := (mkF m 19 #[.val (.ref a1), .val (.int ((0 : Int32) ||| x0)), .val (.ref a1), .val (.int (5 : Int32)), .val (.int (1 : Int32)), .val (.int x0)] [(.int (1 : Int32)), (.ref a1)])) rfl rfl (hb hby d1_19) _ ?_
    show Steps p.tables e below (s₁.setTop (mkF m 20 #[.val (.ref a1), .val (.int ((0 : Int32) ||| x0)), .val (.ref a1), .val (.int (5 : Int32)), .val (.int (1 : Int32)), .val (.int x0)] [(.int x1)])) _
    refine XS.istore X0.here hx rfl (hb hby d1_20) rfl (l' := #[.val (.ref a1), .val (.int ((0 : Int32) ||| x0)), .val (.ref a1), .val (.int (5 : Int32)), .val (.int (1 : Int32)), .val (.int x1)]) rfl ?_
    show Steps p.tables e below (s₁.setTop (mkF m 22 #[.val (.ref a1), .val (.int ((0 : Int32) ||| x0)), .val (.ref a1), .val (.int (5 : Int32)), .val (.int (1 : Int32)), .val (.int x1)] [])) _
    refine XS.iloadN X0.here hx rfl (hb hby d1_22) rfl ?_
    show Steps p.tables e below (s₁.setTop (mkF m 23 #[.val (.ref a1), .val (.int ((0 : Int32) ||| x0)), .val (.ref a1), .val (.int (5 : Int32)), .val (.int (1 : Int32)), .val (.int x1)] [(.int ((0 : Int32) ||| x0))])) _
    refine XS.iload X0.here hx rfl (hb hby d1_23) rfl ?_
    show Steps p.tables e below (s₁.setTop (mkF m 25 #[.val (.ref a1), .val (.int ((0 : Int32) ||| x0)), .val (.ref a1), .val (.int (5 : Int32)), .val (.int (1 : Int32)), .val (.int x1)] [(.int x1), (.int ((0 : Int32) ||| x0))])) _
    refine XS.ior X0.here hx rfl (hb hby d1_25) rfl ?_
    show Steps p.tables e below (s₁.setTop (mkF m 26 #[.val (.ref a1), .val (.int ((0 : Int32) ||| x0)), .val (.ref a1), .val (.int (5 : Int32)), .val (.int (1 : Int32)), .val (.int x1)] [(.int (((0 : Int32) ||| x0) ||| x1))])) _
    refine XS.istoreN X0.here hx rfl (hb hby d1_26) rfl (l' := #[.val (.ref a1), .val (.int (((0 : Int32) ||| x0) ||| x1)), .val (.ref a1), .val (.int (5 : Int32)), .val (.int (1 : Int32)), .val (.int x1)]) rfl ?_
    show Steps p.tables e below (s₁.setTop (mkF m 27 #[.val (.ref a1), .val (.int (((0 : Int32) ||| x0) ||| x1)), .val (.ref a1), .val (.int (5 : Int32)), .val (.int (1 : Int32)), .val (.int x1)] [])) _
    refine XS.iinc X0.here hx rfl (hb hby d1_27) rfl (l' := #[.val (.ref a1), .val (.int (((0 : Int32) ||| x0) ||| x1)), .val (.ref a1), .val (.int (5 : Int32)), .val (.int (2 : Int32)), .val (.int x1)]) rfl ?_
    show Steps p.tables e below (s₁.setTop (mkF m 30 #[.val (.ref a1), .val (.int (((0 : Int32) ||| x0) ||| x1)), .val (.ref a1), .val (.int (5 : Int32)), .val (.int (2 : Int32)), .val (.int x1)] [])) _
    refine XS.goto X0.here hx rfl (pc0 := 30) (pc' := 10) rfl (hb hby d1_30) (by decide) (by decide) ?_
    show Steps p.tables e below (s₁.setTop (mkF m 10 #[.val (.ref a1), .val (.int (((0 : Int32) ||| x0) ||| x1)), .val (.ref a1), .val (.int (5 : Int32)), .val (.int (2 : Int32)), .val (.int x1)] [])) _
    refine XS.iload X0.here hx rfl (hb hby d1_10) rfl ?_
    show Steps p.tables e below (s₁.setTop (mkF m 12 #[.val (.ref a1), .val (.int (((0 : Int32) ||| x0) ||| x1)), .val (.ref a1), .val (.int (5 : Int32)), .val (.int (2 : Int32)), .val (.int x1)] [(.int (2 : Int32))])) _
    refine XS.iloadN X0.here hx rfl (hb hby d1_12) rfl ?_
    show Steps p.tables e below (s₁.setTop (mkF m 13 #[.val (.ref a1), .val (.int (((0 : Int32) ||| x0) ||| x1)), .val (.ref a1), .val (.int (5 : Int32)), .val (.int (2 : Int32)), .val (.int x1)] [(.int (5 : Int32)), (.int (2 : Int32))])) _
    refine XS.icmpNo X0.here hx rfl (hb hby d1_13) rfl (tlt (by decide)).2.1 ?_
    show Steps p.tables e below (s₁.setTop (mkF m 16 #[.val (.ref a1), .val (.int (((0 : Int32) ||| x0) ||| x1)), .val (.ref a1), .val (.int (5 : Int32)), .val (.int (2 : Int32)), .val (.int x1)] [])) _
    refine XS.aloadN X0.here hx rfl (hb hby d1_16) rfl rfl ?_
    show Steps p.tables e below (s₁.setTop (mkF m 17 #[.val (.ref a1), .val (.int (((0 : Int32) ||| x0) ||| x1)), .val (.ref a1), .val (.int (5 : Int32)), .val (.int (2 : Int32)), .val (.int x1)] [(.ref a1)])) _
    refine XS.iload X0.here hx rfl (hb hby d1_17) rfl ?_
    show Steps p.tables e below (s₁.setTop (mkF m 19 #[.val (.ref a1), .val (.int (((0 : Int32) ||| x0) ||| x1)), .val (.ref a1), .val (.int (5 : Int32)), .val (.int (2 : Int32)), .val (.int x1)] [(.int (2 : Int32)), (.ref a1)])) _
    refine X0.baloadBooleans hx (j := (2 : Int32)) (v := (.int x2)) (by first | exact Ar19_4.1 | (rw [e0]; exact Ar19_4.1)) (State.isArrayOf_alike hZ.alike Ar19_4.2.1) Ar19_4.2.2 hin19_4 hat19_4 (g := (mkF m 19 #[.val (.ref a1), .val (.int (((0 : Int32) ||| x0) ||| x1)), .val (.ref a1), .val (.int (5 : Int32)), .val (.int (2 : Int32)), .val (.int x1)] [(.int (2 : Int32)), (.ref a1)])) rfl rfl (hb hby d1_19) _ ?_
    show Steps p.tables e below (s₁.setTop (mkF m 20 #[.val (.ref a1), .val (.int (((0 : Int32) ||| x0) ||| x1)), .val (.ref a1), .val (.int (5 : Int32)), .val (.int (2 : Int32)), .val (.int x1)] [(.int x2)])) _
    refine XS.istore X0.here hx rfl (hb hby d1_20) rfl (l' := #[.val (.ref a1), .val (.int (((0 : Int32) ||| x0) ||| x1)), .val (.ref a1), .val (.int (5 : Int32)), .val (.int (2 : Int32)), .val (.int x2)]) rfl ?_
    show Steps p.tables e below (s₁.setTop (mkF m 22 #[.val (.ref a1), .val (.int (((0 : Int32) ||| x0) ||| x1)), .val (.ref a1), .val (.int (5 : Int32)), .val (.int (2 : Int32)), .val (.int x2)] [])) _
    refine XS.iloadN X0.here hx rfl (hb hby d1_22) rfl ?_
    show Steps p.tables e below (s₁.setTop (mkF m 23 #[.val (.ref a1), .val (.int (((0 : Int32) ||| x0) ||| x1)), .val (.ref a1), .val (.int (5 : Int32)), .val (.int (2 : Int32)), .val (.int x2)] [(.int (((0 : Int32) ||| x0) ||| x1))])) _
    refine XS.iload X0.here hx rfl (hb hby d1_23) rfl ?_
    show Steps p.tables e below (s₁.setTop (mkF m 25 #[.val (.ref a1), .val (.int (((0 : Int32) ||| x0) ||| x1)), .val (.ref a1), .val (.int (5 : Int32)), .val (.int (2 : Int32)), .val (.int x2)] [(.int x2), (.int (((0 : Int32) ||| x0) ||| x1))])) _
    refine XS.ior X0.here hx rfl (hb hby d1_25) rfl ?_
    show Steps p.tables e below (s₁.setTop (mkF m 26 #[.val (.ref a1), .val (.int (((0 : Int32) ||| x0) ||| x1)), .val (.ref a1), .val (.int (5 : Int32)), .val (.int (2 : Int32)), .val (.int x2)] [(.int ((((0 : Int32) ||| x0) ||| x1) ||| x2))])) _
    refine XS.istoreN X0.here hx rfl (hb hby d1_26) rfl (l' := #[.val (.ref a1), .val (.int ((((0 : Int32) ||| x0) ||| x1) ||| x2)), .val (.ref a1), .val (.int (5 : Int32)), .val (.int (2 : Int32)), .val (.int x2)]) rfl ?_
    show Steps p.tables e below (s₁.setTop (mkF m 27 #[.val (.ref a1), .val (.int ((((0 : Int32) ||| x0) ||| x1) ||| x2)), .val (.ref a1), .val (.int (5 : Int32)), .val (.int (2 : Int32)), .val (.int x2)] [])) _
    refine XS.iinc X0.here hx rfl (hb hby d1_27) rfl (l' := #[.val (.ref a1), .val (.int ((((0 : Int32) ||| x0) ||| x1) ||| x2)), .val (.ref a1), .val (.int (5 : Int32)), .val (.int (3 : Int32)), .val (.int x2)]) rfl ?_
    show Steps p.tables e below (s₁.setTop (mkF m 30 #[.val (.ref a1), .val (.int ((((0 : Int32) ||| x0) ||| x1) ||| x2)), .val (.ref a1), .val (.int (5 : Int32)), .val (.int (3 : Int32)), .val (.int x2)] [])) _
    refine XS.goto X0.here hx rfl (pc0 := 30) (pc' := 10) rfl (hb hby d1_30) (by decide) (by decide) ?_
    show Steps p.tables e below (s₁.setTop (mkF m 10 #[.val (.ref a1), .val (.int ((((0 : Int32) ||| x0) ||| x1) ||| x2)), .val (.ref a1), .val (.int (5 : Int32)), .val (.int (3 : Int32)), .val (.int x2)] [])) _
    refine XS.iload X0.here hx rfl (hb hby d1_10) rfl ?_
    show Steps p.tables e below (s₁.setTop (mkF m 12 #[.val (.ref a1), .val (.int ((((0 : Int32) ||| x0) ||| x1) ||| x2)), .val (.ref a1), .val (.int (5 : Int32)), .val (.int (3 : Int32)), .val (.int x2)] [(.int (3 : Int32))])) _
    refine XS.iloadN X0.here hx rfl (hb hby d1_12) rfl ?_
    show Steps p.tables e below (s₁.setTop (mkF m 13 #[.val (.ref a1), .val (.int ((((0 : Int32) ||| x0) ||| x1) ||| x2)), .val (.ref a1), .val (.int (5 : Int32)), .val (.int (3 : Int32)), .val (.int x2)] [(.int (5 : Int32)), (.int (3 : Int32))])) _
    refine XS.icmpNo X0.here hx rfl (hb hby d1_13) rfl (tlt (by decide)).2.1 ?_
    show Steps p.tables e below (s₁.setTop (mkF m 16 #[.val (.ref a1), .val (.int ((((0 : Int32) ||| x0) ||| x1) ||| x2)), .val (.ref a1), .val (.int (5 : Int32)), .val (.int (3 : Int32)), .val (.int x2)] [])) _
    refine XS.aloadN X0.here hx rfl (hb hby d1_16) rfl rfl ?_
    show Steps p.tables e below (s₁.setTop (mkF m 17 #[.val (.ref a1), .val (.int ((((0 : Int32) ||| x0) ||| x1) ||| x2)), .val (.ref a1), .val (.int (5 : Int32)), .val (.int (3 : Int32)), .val (.int x2)] [(.ref a1)])) _
    refine XS.iload X0.here hx rfl (hb hby d1_17) rfl ?_
    show Steps p.tables e below (s₁.setTop (mkF m 19 #[.val (.ref a1), .val (.int ((((0 : Int32) ||| x0) ||| x1) ||| x2)), .val (.ref a1), .val (.int (5 : Int32)), .val (.int (3 : Int32)), .val (.int x2)] [(.int (3 : Int32)), (.ref a1)])) _
    refine X0.baloadBooleans hx (j := (3 : Int32)) (v := (.int x3)) (by first | exact Ar19_5.1 | (rw [e0]; exact Ar19_5.1)) (State.isArrayOf_alike hZ.alike Ar19_5.2.1) Ar19_5.2.2 hin19_5 hat19_5 (g := (mkF m 19 #[.val (.ref a1), .val (.int ((((0 : Int32) ||| x0) ||| x1) ||| x2)), .val (.ref a1), .val (.int (5 : Int32)), .val (.int (3 : Int32)), .val (.int x2)] [(.int (3 : Int32)), (.ref a1)])) rfl rfl (hb hby d1_19) _ ?_
    show Steps p.tables e below (s₁.setTop (mkF m 20 #[.val (.ref a1), .val (.int ((((0 : Int32) ||| x0) ||| x1) ||| x2)), .val (.ref a1), .val (.int (5 : Int32)), .val (.int (3 : Int32)), .val (.int x2)] [(.int x3)])) _
    refine XS.istore X0.here hx rfl (hb hby d1_20) rfl (l' := #[.val (.ref a1), .val (.int ((((0 : Int32) ||| x0) ||| x1) ||| x2)), .val (.ref a1), .val (.int (5 : Int32)), .val (.int (3 : Int32)), .val (.int x3)]) rfl ?_
    show Steps p.tables e below (s₁.setTop (mkF m 22 #[.val (.ref a1), .val (.int ((((0 : Int32) ||| x0) ||| x1) ||| x2)), .val (.ref a1), .val (.int (5 : Int32)), .val (.int (3 : Int32)), .val (.int x3)] [])) _
    refine XS.iloadN X0.here hx rfl (hb hby d1_22) rfl ?_
    show Steps p.tables e below (s₁.setTop (mkF m 23 #[.val (.ref a1), .val (.int ((((0 : Int32) ||| x0) ||| x1) ||| x2)), .val (.ref a1), .val (.int (5 : Int32)), .val (.int (3 : Int32)), .val (.int x3)] [(.int ((((0 : Int32) ||| x0) ||| x1) ||| x2))])) _
    refine XS.iload X0.here hx rfl (hb hby d1_23) rfl ?_
    show Steps p.tables e below (s₁.setTop (mkF m 25 #[.val (.ref a1), .val (.int ((((0 : Int32) ||| x0) ||| x1) ||| x2)), .val (.ref a1), .val (.int (5 : Int32)), .val (.int (3 : Int32)), .val (.int x3)] [(.int x3), (.int ((((0 : Int32) ||| x0) ||| x1) ||| x2))])) _
    refine XS.ior X0.here hx rfl (hb hby d1_25) rfl ?_
    show Steps p.tables e below (s₁.setTop (mkF m 26 #[.val (.ref a1), .val (.int ((((0 : Int32) ||| x0) ||| x1) ||| x2)), .val (.ref a1), .val (.int (5 : Int32)), .val (.int (3 : Int32)), .val (.int x3)] [(.int (((((0 : Int32) ||| x0) ||| x1) ||| x2) ||| x3))])) _
    refine XS.istoreN X0.here hx rfl (hb hby d1_26) rfl (l' := #[.val (.ref a1), .val (.int (((((0 : Int32) ||| x0) ||| x1) ||| x2) ||| x3)), .val (.ref a1), .val (.int (5 : Int32)), .val (.int (3 : Int32)), .val (.int x3)]) rfl ?_
    show Steps p.tables e below (s₁.setTop (mkF m 27 #[.val (.ref a1), .val (.int (((((0 : Int32) ||| x0) ||| x1) ||| x2) ||| x3)), .val (.ref a1), .val (.int (5 : Int32)), .val (.int (3 : Int32)), .val (.int x3)] [])) _
    refine XS.iinc X0.here hx rfl (hb hby d1_27) rfl (l' := #[.val (.ref a1), .val (.int (((((0 : Int32) ||| x0) ||| x1) ||| x2) ||| x3)), .val (.ref a1), .val (.int (5 : Int32)), .val (.int (4 : Int32)), .val (.int x3)]) rfl ?_
    show Steps p.tables e below (s₁.setTop (mkF m 30 #[.val (.ref a1), .val (.int (((((0 : Int32) ||| x0) ||| x1) ||| x2) ||| x3)), .val (.ref a1), .val (.int (5 : Int32)), .val (.int (4 : Int32)), .val (.int x3)] [])) _
    refine XS.goto X0.here hx rfl (pc0 := 30) (pc' := 10) rfl (hb hby d1_30) (by decide) (by decide) ?_
    show Steps p.tables e below (s₁.setTop (mkF m 10 #[.val (.ref a1), .val (.int (((((0 : Int32) ||| x0) ||| x1) ||| x2) ||| x3)), .val (.ref a1), .val (.int (5 : Int32)), .val (.int (4 : Int32)), .val (.int x3)] [])) _
    refine XS.iload X0.here hx rfl (hb hby d1_10) rfl ?_
    show Steps p.tables e below (s₁.setTop (mkF m 12 #[.val (.ref a1), .val (.int (((((0 : Int32) ||| x0) ||| x1) ||| x2) ||| x3)), .val (.ref a1), .val (.int (5 : Int32)), .val (.int (4 : Int32)), .val (.int x3)] [(.int (4 : Int32))])) _
    refine XS.iloadN X0.here hx rfl (hb hby d1_12) rfl ?_
    show Steps p.tables e below (s₁.setTop (mkF m 13 #[.val (.ref a1), .val (.int (((((0 : Int32) ||| x0) ||| x1) ||| x2) ||| x3)), .val (.ref a1), .val (.int (5 : Int32)), .val (.int (4 : Int32)), .val (.int x3)] [(.int (5 : Int32)), (.int (4 : Int32))])) _
    refine XS.icmpNo X0.here hx rfl (hb hby d1_13) rfl (tlt (by decide)).2.1 ?_
    show Steps p.tables e below (s₁.setTop (mkF m 16 #[.val (.ref a1), .val (.int (((((0 : Int32) ||| x0) ||| x1) ||| x2) ||| x3)), .val (.ref a1), .val (.int (5 : Int32)), .val (.int (4 : Int32)), .val (.int x3)] [])) _
    refine XS.aloadN X0.here hx rfl (hb hby d1_16) rfl rfl ?_
    show Steps p.tables e below (s₁.setTop (mkF m 17 #[.val (.ref a1), .val (.int (((((0 : Int32) ||| x0) ||| x1) ||| x2) ||| x3)), .val (.ref a1), .val (.int (5 : Int32)), .val (.int (4 : Int32)), .val (.int x3)] [(.ref a1)])) _
    refine XS.iload X0.here hx rfl (hb hby d1_17) rfl ?_
    show Steps p.tables e below (s₁.setTop (mkF m 19 #[.val (.ref a1), .val (.int (((((0 : Int32) ||| x0) ||| x1) ||| x2) ||| x3)), .val (.ref a1), .val (.int (5 : Int32)), .val (.int (4 : Int32)), .val (.int x3)] [(.int (4 : Int32)), (.ref a1)])) _
    refine X0.baloadBooleans hx (j := (4 : Int32)) (v := (.int x4)) (by first | exact Ar19_6.1 | (rw [e0]; exact Ar19_6.1)) (State.isArrayOf_alike hZ.alike Ar19_6.2.1) Ar19_6.2.2 hin19_6 hat19_6 (g := (mkF m 19 #[.val (.ref a1), .val (.int (((((0 : Int32) ||| x0) ||| x1) ||| x2) ||| x3)), .val (.ref a1), .val (.int (5 : Int32)), .val (.int (4 : Int32)), .val (.int x3)] [(.int (4 : Int32)), (.ref a1)])) rfl rfl (hb hby d1_19) _ ?_
    show Steps p.tables e below (s₁.setTop (mkF m 20 #[.val (.ref a1), .val (.int (((((0 : Int32) ||| x0) ||| x1) ||| x2) ||| x3)), .val (.ref a1), .val (.int (5 : Int32)), .val (.int (4 : Int32)), .val (.int x3)] [(.int x4)])) _
    refine XS.istore X0.here hx rfl (hb hby d1_20) rfl (l' := #[.val (.ref a1), .val (.int (((((0 : Int32) ||| x0) ||| x1) ||| x2) ||| x3)), .val (.ref a1), .val (.int (5 : Int32)), .val (.int (4 : Int32)), .val (.int x4)]) rfl ?_
    show Steps p.tables e below (s₁.setTop (mkF m 22 #[.val (.ref a1), .val (.int (((((0 : Int32) ||| x0) ||| x1) ||| x2) ||| x3)), .val (.ref a1), .val (.int (5 : Int32)), .val (.int (4 : Int32)), .val (.int x4)] [])) _
    refine XS.iloadN X0.here hx rfl (hb hby d1_22) rfl ?_
    show Steps p.tables e below (s₁.setTop (mkF m 23 #[.val (.ref a1), .val (.int (((((0 : Int32) ||| x0) ||| x1) ||| x2) ||| x3)), .val (.ref a1), .val (.int (5 : Int32)), .val (.int (4 : Int32)), .val (.int x4)] [(.int (((((0 : Int32) ||| x0) ||| x1) ||| x2) ||| x3))])) _
    refine XS.iload X0.here hx rfl (hb hby d1_23) rfl ?_
    show Steps p.tables e below (s₁.setTop (mkF m 25 #[.val (.ref a1), .val (.int (((((0 : Int32) ||| x0) ||| x1) ||| x2) ||| x3)), .val (.ref a1), .val (.int (5 : Int32)), .val (.int (4 : Int32)), .val (.int x4)] [(.int x4), (.int (((((0 : Int32) ||| x0) ||| x1) ||| x2) ||| x3))])) _
    refine XS.ior X0.here hx rfl (hb hby d1_25) rfl ?_
    show Steps p.tables e below (s₁.setTop (mkF m 26 #[.val (.ref a1), .val (.int (((((0 : Int32) ||| x0) ||| x1) ||| x2) ||| x3)), .val (.ref a1), .val (.int (5 : Int32)), .val (.int (4 : Int32)), .val (.int x4)] [(.int ((((((0 : Int32) ||| x0) ||| x1) ||| x2) ||| x3) ||| x4))])) _
    refine XS.istoreN X0.here hx rfl (hb hby d1_26) rfl (l' := #[.val (.ref a1), .val (.int ((((((0 : Int32) ||| x0) ||| x1) ||| x2) ||| x3) ||| x4)), .val (.ref a1), .val (.int (5 : Int32)), .val (.int (4 : Int32)), .val (.int x4)]) rfl ?_
    show Steps p.tables e below (s₁.setTop (mkF m 27 #[.val (.ref a1), .val (.int ((((((0 : Int32) ||| x0) ||| x1) ||| x2) ||| x3) ||| x4)), .val (.ref a1), .val (.int (5 : Int32)), .val (.int (4 : Int32)), .val (.int x4)] [])) _
    refine XS.iinc X0.here hx rfl (hb hby d1_27) rfl (l' := #[.val (.ref a1), .val (.int ((((((0 : Int32) ||| x0) ||| x1) ||| x2) ||| x3) ||| x4)), .val (.ref a1), .val (.int (5 : Int32)), .val (.int (5 : Int32)), .val (.int x4)]) rfl ?_
    show Steps p.tables e below (s₁.setTop (mkF m 30 #[.val (.ref a1), .val (.int ((((((0 : Int32) ||| x0) ||| x1) ||| x2) ||| x3) ||| x4)), .val (.ref a1), .val (.int (5 : Int32)), .val (.int (5 : Int32)), .val (.int x4)] [])) _
    refine XS.goto X0.here hx rfl (pc0 := 30) (pc' := 10) rfl (hb hby d1_30) (by decide) (by decide) ?_
    show Steps p.tables e below (s₁.setTop (mkF m 10 #[.val (.ref a1), .val (.int ((((((0 : Int32) ||| x0) ||| x1) ||| x2) ||| x3) ||| x4)), .val (.ref a1), .val (.int (5 : Int32)), .val (.int (5 : Int32)), .val (.int x4)] [])) _
    refine XS.iload X0.here hx rfl (hb hby d1_10) rfl ?_
    show Steps p.tables e below (s₁.setTop (mkF m 12 #[.val (.ref a1), .val (.int ((((((0 : Int32) ||| x0) ||| x1) ||| x2) ||| x3) ||| x4)), .val (.ref a1), .val (.int (5 : Int32)), .val (.int (5 : Int32)), .val (.int x4)] [(.int (5 : Int32))])) _
    refine XS.iloadN X0.here hx rfl (hb hby d1_12) rfl ?_
    show Steps p.tables e below (s₁.setTop (mkF m 13 #[.val (.ref a1), .val (.int ((((((0 : Int32) ||| x0) ||| x1) ||| x2) ||| x3) ||| x4)), .val (.ref a1), .val (.int (5 : Int32)), .val (.int (5 : Int32)), .val (.int x4)] [(.int (5 : Int32)), (.int (5 : Int32))])) _
    refine XS.icmpYes X0.here hx rfl (pc0 := 13) (pc' := 33) rfl (hb hby d1_13) rfl (flt (by decide)).2.1 (by decide) (by decide) ?_
    show Steps p.tables e below (s₁.setTop (mkF m 33 #[.val (.ref a1), .val (.int ((((((0 : Int32) ||| x0) ||| x1) ||| x2) ||| x3) ||| x4)), .val (.ref a1), .val (.int (5 : Int32)), .val (.int (5 : Int32)), .val (.int x4)] [])) _
    refine XS.iloadN X0.here hx rfl (hb hby d1_33) rfl ?_
    show Steps p.tables e below (s₁.setTop (mkF m 34 #[.val (.ref a1), .val (.int ((((((0 : Int32) ||| x0) ||| x1) ||| x2) ||| x3) ||| x4)), .val (.ref a1), .val (.int (5 : Int32)), .val (.int (5 : Int32)), .val (.int x4)] [(.int ((((((0 : Int32) ||| x0) ||| x1) ||| x2) ||| x3) ||| x4))])) _
    exact retN X0 hx (t := .boolean) Bd.returns (by simp) (hb hby d1_34) hr
  · show Q1n5 Z a1 kk x0 x1 x2 x3 x4 h0 n0 _ s₁.heap _
    rw [e0]
    have hv : (own_any5 x0 x1 x2 x3 x4) = (nar .boolean ((((((0 : Int32) ||| x0) ||| x1) ||| x2) ||| x3) ||| x4)) := by unfold own_any5; rfl
    exact ⟨by rw [hv], N0, rfl⟩
theorem pn1n6 : plainName "com/example/braided_tour/braidedtour/choice/Logit" = true := by first | (simp [plainName, overriddenIn]; done) | decide +kernel
theorem ef1n6 (m : MethodId) (a1 : Addr) : entryFrame m #[(.ref a1)] 6 = mkF m 0 #[.val (.ref a1), .unset, .unset, .unset, .unset, .unset] [] := by first | (simp [entryFrame, mkF, argsToLocals, Value.category]; done) | rfl
def own_any6 (x0 : Int32) (x1 : Int32) (x2 : Int32) (x3 : Int32) (x4 : Int32) (x5 : Int32) : Int32 := (nar .boolean (((((((0 : Int32) ||| x0) ||| x1) ||| x2) ||| x3) ||| x4) ||| x5))
def Q1n6 (Z : State) (a1 : Addr) (kk : ClassId) (x0 : Int32) (x1 : Int32) (x2 : Int32) (x3 : Int32) (x4 : Int32) (x5 : Int32) (h0 : Heap) (n0 : Nat) (v : Option Value) (h : Heap) (L : List Loc) : Prop := v = some (.int (own_any6 x0 x1 x2 x3 x4 x5)) ∧ Fr n0 L ∧ h = h0
set_option maxRecDepth 65536 in
set_option maxHeartbeats 40000000 in
theorem rm1n6 (l : Launch) (Z : State) (a0 : Array Value) (hw : ∀ d ∈ tables_1, d.before a0 Z = true) (ws : List Jvm.Cond) (a1 : Addr) (kk : ClassId) (x0 : Int32) (x1 : Int32) (x2 : Int32) (x3 : Int32) (x4 : Int32) (x5 : Int32) (h0 : Heap) (n0 : Nat) (Z0 : n0 ≤ h0.size) (V0 : Arv Z h0 a1 kk .boolean (6 : Int32) [(.int x0), (.int x1), (.int x2), (.int x3), (.int x4), (.int x5)] (.int (0 : Int32))) :
    MetFree l (⟨"com/example/braided_tour/braidedtour/choice/Logit", "anyAvailable", "([Z)Z"⟩ : MethodName) (head1 (Jvm.Cond.code (⟨"com/example/braided_tour/braidedtour/choice/Logit", "anyAvailable", "([Z)Z"⟩ : MethodName) prog_7_method_3_code 6 (some .boolean) :: ws) ({ frames := 0, cells := 0, slots := 0, locals := 0 } : Room)) (fun a U => a = #[(.ref a1)] ∧ Z.Warmed39 U.vm ∧ U.heap = h0) (fun _ _ _ _ _ => True) (fun _ U o U' => ∃ v L, o = .returned v ∧ Q1n6 Z a1 kk x0 x1 x2 x3 x4 x5 h0 n0 v U'.heap L ∧ FrameEnd U o U' L ({ frames := 0, cells := 0, slots := 0, locals := 0 } : Room).cells ({ frames := 0, cells := 0, slots := 0, locals := 0 } : Room).slots) := by
  refine MetFree.of_bodySF (plainFor_of_name pn1n6) hisR ?_
  intro p e s m args below meth c s₁ Bd hml0 hP hK
  obtain ⟨rfl, hZ, hh⟩ := hP
  have hx := Bd.exec
  have hby := Bd.bytes
  have hml : c.maxLocals = 6 := hml0
  have hown : s.vm.findClass "com/example/braided_tour/braidedtour/choice/Logit" = some m.cls := findClass_of_methodNamed Bd.named
  have hnm := (name_of_methodNamed Bd.named Bd.method).1
  have X0 : Stand p l e ({ frames := 0, cells := 0, slots := 0, locals := 0 } : Room) s m #[(.ref a1)] below meth c s₁ [] 0 0 := Stand.of_body Bd
  have e0 : s₁.heap = h0 := by rw [← hh, Bd.state]; rfl
  have N0 := Fr.nil n0
  have pre0 : ∀ t, Steps p.tables e below (s₁.setTop (mkF m 0 #[.val (.ref a1), .unset, .unset, .unset, .unset, .unset] [])) t → Steps p.tables e below (s₁.setTop (entryFrame m #[(.ref a1)] 6)) t := fun t k => castTop (ef1n6 m a1) k
  have cp5_1 := V0
  obtain ⟨cl5_1, Ar5_1, -, Sa5_1, Na5_1, -, -⟩ := cp5_1
  have cp19_2 := V0
  obtain ⟨cl19_2, Ar19_2, -, Sa19_2, Na19_2, Ha19_2, -⟩ := cp19_2
  have hin19_2 : ¬ ((0 : Int32) < 0 ∨ cl19_2.slots.size ≤ ((0 : Int32)).toNatClampNeg) := inb_of Sa19_2 ⟨by decide, by decide⟩
  have hat19_2 : cl19_2.slots[((0 : Int32)).toNatClampNeg]? = some (.int x0) := Ha19_2.at hin19_2 rfl
  have cp19_3 := V0
  obtain ⟨cl19_3, Ar19_3, -, Sa19_3, Na19_3, Ha19_3, -⟩ := cp19_3
  have hin19_3 : ¬ ((1 : Int32) < 0 ∨ cl19_3.slots.size ≤ ((1 : Int32)).toNatClampNeg) := inb_of Sa19_3 ⟨by decide, by decide⟩
  have hat19_3 : cl19_3.slots[((1 : Int32)).toNatClampNeg]? = some (.int x1) := Ha19_3.at hin19_3 rfl
  have cp19_4 := V0
  obtain ⟨cl19_4, Ar19_4, -, Sa19_4, Na19_4, Ha19_4, -⟩ := cp19_4
  have hin19_4 : ¬ ((2 : Int32) < 0 ∨ cl19_4.slots.size ≤ ((2 : Int32)).toNatClampNeg) := inb_of Sa19_4 ⟨by decide, by decide⟩
  have hat19_4 : cl19_4.slots[((2 : Int32)).toNatClampNeg]? = some (.int x2) := Ha19_4.at hin19_4 rfl
  have cp19_5 := V0
  obtain ⟨cl19_5, Ar19_5, -, Sa19_5, Na19_5, Ha19_5, -⟩ := cp19_5
  have hin19_5 : ¬ ((3 : Int32) < 0 ∨ cl19_5.slots.size ≤ ((3 : Int32)).toNatClampNeg) := inb_of Sa19_5 ⟨by decide, by decide⟩
  have hat19_5 : cl19_5.slots[((3 : Int32)).toNatClampNeg]? = some (.int x3) := Ha19_5.at hin19_5 rfl
  have cp19_6 := V0
  obtain ⟨cl19_6, Ar19_6, -, Sa19_6, Na19_6, Ha19_6, -⟩ := cp19_6
  have hin19_6 : ¬ ((4 : Int32) < 0 ∨ cl19_6.slots.size ≤ ((4 : Int32)).toNatClampNeg) := inb_of Sa19_6 ⟨by decide, by decide⟩
  have hat19_6 : cl19_6.slots[((4 : Int32)).toNatClampNeg]? = some (.int x4) := Ha19_6.at hin19_6 rfl
  have cp19_7 := V0
  obtain ⟨cl19_7, Ar19_7, -, Sa19_7, Na19_7, Ha19_7, -⟩ := cp19_7
  have hin19_7 : ¬ ((5 : Int32) < 0 ∨ cl19_7.slots.size ≤ ((5 : Int32)).toNatClampNeg) := inb_of Sa19_7 ⟨by decide, by decide⟩
  have hat19_7 : cl19_7.slots[((5 : Int32)).toNatClampNeg]? = some (.int x5) := Ha19_7.at hin19_7 rfl
  obtain ⟨fs, hr, hrun, hended, hW, hsame⟩ := X0.leave (v := some (.int (nar .boolean (((((((0 : Int32) ||| x0) ||| x1) ||| x2) ||| x3) ||| x4) ||| x5)))) (fun h => by rw [Bd.returns] at h; cases h)
  refine ⟨_, _, pre0 _ ?_, hrun, hended, _, _, rfl, ?_, ⟨_, rfl⟩, hW, hsame.mono (by decide) (by decide)⟩
  · show Steps p.tables e below (s₁.setTop (mkF m 0 #[.val (.ref a1), .unset, .unset, .unset, .unset, .unset] [])) _
    refine XS.iconst X0.here hx rfl (hb hby d1_0) ?_
    show Steps p.tables e below (s₁.setTop (mkF m 1 #[.val (.ref a1), .unset, .unset, .unset, .unset, .unset] [(.int (0 : Int32))])) _
    refine XS.istoreN X0.here hx rfl (hb hby d1_1) rfl (l' := #[.val (.ref a1), .val (.int (0 : Int32)), .unset, .unset, .unset, .unset]) rfl ?_
    show Steps p.tables e below (s₁.setTop (mkF m 2 #[.val (.ref a1), .val (.int (0 : Int32)), .unset, .unset, .unset, .unset] [])) _
    refine XS.aloadN X0.here hx rfl (hb hby d1_2) rfl rfl ?_
    show Steps p.tables e below (s₁.setTop (mkF m 3 #[.val (.ref a1), .val (.int (0 : Int32)), .unset, .unset, .unset, .unset] [(.ref a1)])) _
    refine XS.astoreN X0.here hx rfl (hb hby d1_3) rfl rfl (l' := #[.val (.ref a1), .val (.int (0 : Int32)), .val (.ref a1), .unset, .unset, .unset]) rfl ?_
    show Steps p.tables e below (s₁.setTop (mkF m 4 #[.val (.ref a1), .val (.int (0 : Int32)), .val (.ref a1), .unset, .unset, .unset] [])) _
    refine XS.aloadN X0.here hx rfl (hb hby d1_4) rfl rfl ?_
    show Steps p.tables e below (s₁.setTop (mkF m 5 #[.val (.ref a1), .val (.int (0 : Int32)), .val (.ref a1), .unset, .unset, .unset] [(.ref a1)])) _
    refine X0.arraylength hx (by first | exact Ar5_1.1 | (rw [e0]; exact Ar5_1.1)) (State.isArrayOf_alike hZ.alike Ar5_1.2.1) (g := (mkF m 5 #[.val (.ref a1), .val (.int (0 : Int32)), .val (.ref a1), .unset, .unset, .unset] [(.ref a1)])) rfl rfl (hb hby d1_5) _ ?_
    rw [len_of Sa5_1 Na5_1]
    show Steps p.tables e below (s₁.setTop (mkF m 6 #[.val (.ref a1), .val (.int (0 : Int32)), .val (.ref a1), .unset, .unset, .unset] [(.int (6 : Int32))])) _
    refine XS.istoreN X0.here hx rfl (hb hby d1_6) rfl (l' := #[.val (.ref a1), .val (.int (0 : Int32)), .val (.ref a1), .val (.int (6 : Int32)), .unset, .unset]) rfl ?_
    show Steps p.tables e below (s₁.setTop (mkF m 7 #[.val (.ref a1), .val (.int (0 : Int32)), .val (.ref a1), .val (.int (6 : Int32)), .unset, .unset] [])) _
    refine XS.iconst X0.here hx rfl (hb hby d1_7) ?_
    show Steps p.tables e below (s₁.setTop (mkF m 8 #[.val (.ref a1), .val (.int (0 : Int32)), .val (.ref a1), .val (.int (6 : Int32)), .unset, .unset] [(.int (0 : Int32))])) _
    refine XS.istore X0.here hx rfl (hb hby d1_8) rfl (l' := #[.val (.ref a1), .val (.int (0 : Int32)), .val (.ref a1), .val (.int (6 : Int32)), .val (.int (0 : Int32)), .unset]) rfl ?_
    show Steps p.tables e below (s₁.setTop (mkF m 10 #[.val (.ref a1), .val (.int (0 : Int32)), .val (.ref a1), .val (.int (6 : Int32)), .val (.int (0 : Int32)), .unset] [])) _
    refine XS.iload X0.here hx rfl (hb hby d1_10) rfl ?_
    show Steps p.tables e below (s₁.setTop (mkF m 12 #[.val (.ref a1), .val (.int (0 : Int32)), .val (.ref a1), .val (.int (6 : Int32)), .val (.int (0 : Int32)), .unset] [(.int (0 : Int32))])) _
    refine XS.iloadN X0.here hx rfl (hb hby d1_12) rfl ?_
    show Steps p.tables e below (s₁.setTop (mkF m 13 #[.val (.ref a1), .val (.int (0 : Int32)), .val (.ref a1), .val (.int (6 : Int32)), .val (.int (0 : Int32)), .unset] [(.int (6 : Int32)), (.int (0 : Int32))])) _
    refine XS.icmpNo X0.here hx rfl (hb hby d1_13) rfl (tlt (by decide)).2.1 ?_
    show Steps p.tables e below (s₁.setTop (mkF m 16 #[.val (.ref a1), .val (.int (0 : Int32)), .val (.ref a1), .val (.int (6 : Int32)), .val (.int (0 : Int32)), .unset] [])) _
    refine XS.aloadN X0.here hx rfl (hb hby d1_16) rfl rfl ?_
    show Steps p.tables e below (s₁.setTop (mkF m 17 #[.val (.ref a1), .val (.int (0 : Int32)), .val (.ref a1), .val (.int (6 : Int32)), .val (.int (0 : Int32)), .unset] [(.ref a1)])) _
    refine XS.iload X0.here hx rfl (hb hby d1_17) rfl ?_
    show Steps p.tables e below (s₁.setTop (mkF m 19 #[.val (.ref a1), .val (.int (0 : Int32)), .val (.ref a1), .val (.int (6 : Int32)), .val (.int (0 : Int32)), .unset] [(.int (0 : Int32)), (.ref a1)])) _
    refine X0.baloadBooleans hx (j := (0 : Int32)) (v := (.int x0)) (by first | exact Ar19_2.1 | (rw [e0]; exact Ar19_2.1)) (State.isArrayOf_alike hZ.alike Ar19_2.2.1) Ar19_2.2.2 hin19_2 hat19_2 (g := (mkF m 19 #[.val (.ref a1), .val (.int (0 : Int32)), .val (.ref a1), .val (.int (6 : Int32)), .val (.int (0 : Int32)), .unset] [(.int (0 : Int32)), (.ref a1)])) rfl rfl (hb hby d1_19) _ ?_
    show Steps p.tables e below (s₁.setTop (mkF m 20 #[.val (.ref a1), .val (.int (0 : Int32)), .val (.ref a1), .val (.int (6 : Int32)), .val (.int (0 : Int32)), .unset] [(.int x0)])) _
    refine XS.istore X0.here hx rfl (hb hby d1_20) rfl (l' := #[.val (.ref a1), .val (.int (0 : Int32)), .val (.ref a1), .val (.int (6 : Int32)), .val (.int (0 : Int32)), .val (.int x0)]) rfl ?_
    show Steps p.tables e below (s₁.setTop (mkF m 22 #[.val (.ref a1), .val (.int (0 : Int32)), .val (.ref a1), .val (.int (6 : Int32)), .val (.int (0 : Int32)), .val (.int x0)] [])) _
    refine XS.iloadN X0.here hx rfl (hb hby d1_22) rfl ?_
    show Steps p.tables e below (s₁.setTop (mkF m 23 #[.val (.ref a1), .val (.int (0 : Int32)), .val (.ref a1), .val (.int (6 : Int32)), .val (.int (0 : Int32)), .val (.int x0)] [(.int (0 : Int32))])) _
    refine XS.iload X0.here hx rfl (hb hby d1_23) rfl ?_
    show Steps p.tables e below (s₁.setTop (mkF m 25 #[.val (.ref a1), .val (.int (0 : Int32)), .val (.ref a1), .val (.int (6 : Int32)), .val (.int (0 : Int32)), .val (.int x0)] [(.int x0), (.int (0 : Int32))])) _
    refine XS.ior X0.here hx rfl (hb hby d1_25) rfl ?_
    show Steps p.tables e below (s₁.setTop (mkF m 26 #[.val (.ref a1), .val (.int (0 : Int32)), .val (.ref a1), .val (.int (6 : Int32)), .val (.int (0 : Int32)), .val (.int x0)] [(.int ((0 : Int32) ||| x0))])) _
    refine XS.istoreN X0.here hx rfl (hb hby d1_26) rfl (l' := #[.val (.ref a1), .val (.int ((0 : Int32) ||| x0)), .val (.ref a1), .val (.int (6 : Int32)), .val (.int (0 : Int32)), .val (.int x0)]) rfl ?_
    show Steps p.tables e below (s₁.setTop (mkF m 27 #[.val (.ref a1), .val (.int ((0 : Int32) ||| x0)), .val (.ref a1), .val (.int (6 : Int32)), .val (.int (0 : Int32)), .val (.int x0)] [])) _
    refine XS.iinc X0.here hx rfl (hb hby d1_27) rfl (l' := #[.val (.ref a1), .val (.int ((0 : Int32) ||| x0)), .val (.ref a1), .val (.int (6 : Int32)), .val (.int (1 : Int32)), .val (.int x0)]) rfl ?_
    show Steps p.tables e below (s₁.setTop (mkF m 30 #[.val (.ref a1), .val (.int ((0 : Int32) ||| x0)), .val (.ref a1), .val (.int (6 : Int32)), .val (.int (1 : Int32)), .val (.int x0)] [])) _
    refine XS.goto X0.here hx rfl (pc0 := 30) (pc' := 10) rfl (hb hby d1_30) (by decide) (by decide) ?_
    show Steps p.tables e below (s₁.setTop (mkF m 10 #[.val (.ref a1), .val (.int ((0 : Int32) ||| x0)), .val (.ref a1), .val (.int (6 : Int32)), .val (.int (1 : Int32)), .val (.int x0)] [])) _
    refine XS.iload X0.here hx rfl (hb hby d1_10) rfl ?_
    show Steps p.tables e below (s₁.setTop (mkF m 12 #[.val (.ref a1), .val (.int ((0 : Int32) ||| x0)), .val (.ref a1), .val (.int (6 : Int32)), .val (.int (1 : Int32)), .val (.int x0)] [(.int (1 : Int32))])) _
    refine XS.iloadN X0.here hx rfl (hb hby d1_12) rfl ?_
    show Steps p.tables e below (s₁.setTop (mkF m 13 #[.val (.ref a1), .val (.int ((0 : Int32) ||| x0)), .val (.ref a1), .val (.int (6 : Int32)), .val (.int (1 : Int32)), .val (.int x0)] [(.int (6 : Int32)), (.int (1 : Int32))])) _
    refine XS.icmpNo X0.here hx rfl (hb hby d1_13) rfl (tlt (by decide)).2.1 ?_
    show Steps p.tables e below (s₁.setTop (mkF m 16 #[.val (.ref a1), .val (.int ((0 : Int32) ||| x0)), .val (.ref a1), .val (.int (6 : Int32)), .val (.int (1 : Int32)), .val (.int x0)] [])) _
    refine XS.aloadN X0.here hx rfl (hb hby d1_16) rfl rfl ?_
    show Steps p.tables e below (s₁.setTop (mkF m 17 #[.val (.ref a1), .val (.int ((0 : Int32) ||| x0)), .val (.ref a1), .val (.int (6 : Int32)), .val (.int (1 : Int32)), .val (.int x0)] [(.ref a1)])) _
    refine XS.iload X0.here hx rfl (hb hby d1_17) rfl ?_
    show Steps p.tables e below (s₁.setTop (mkF m 19 #[.val (.ref a1), .val (.int ((0 : Int32) ||| x0)), .val (.ref a1), .val (.int (6 : Int32)), .val (.int (1 : Int32)), .val (.int x0)] [(.int (1 : Int32)), (.ref a1)])) _
    refine X0.baloadBooleans hx (j := (1 : Int32)) (v := (.int x1)) (by first | exact Ar19_3.1 | (rw [e0]; exact Ar19_3.1)) (State.isArrayOf_alike hZ.alike Ar19_3.2.1) Ar19_3.2.2 hin19_3 hat19_3 (g := (mkF m 19 #[.val (.ref a1), .val (.int ((0 : Int32) ||| x0)), .val (.ref a1), .val (.int (6 : Int32)), .val (.int (1 : Int32)), .val (.int x0)] [(.int (1 : Int32)), (.ref a1)])) rfl rfl (hb hby d1_19) _ ?_
    show Steps p.tables e below (s₁.setTop (mkF m 20 #[.val (.ref a1), .val (.int ((0 : Int32) ||| x0)), .val (.ref a1), .val (.int (6 : Int32)), .val (.int (1 : Int32)), .val (.int x0)] [(.int x1)])) _
    refine XS.istore X0.here hx rfl (hb hby d1_20) rfl (l' := #[.val (.ref a1), .val (.int ((0 : Int32) ||| x0)), .val (.ref a1), .val (.int (6 : Int32)), .val (.int (1 : Int32)), .val (.int x1)]) rfl ?_
    show Steps p.tables e below (s₁.setTop (mkF m 22 #[.val (.ref a1), .val (.int ((0 : Int32) ||| x0)), .val (.ref a1), .val (.int (6 : Int32)), .val (.int (1 : Int32)), .val (.int x1)] [])) _
    refine XS.iloadN X0.here hx rfl (hb hby d1_22) rfl ?_
    show Steps p.tables e below (s₁.setTop (mkF m 23 #[.val (.ref a1), .val (.int ((0 : Int32) ||| x0)), .val (.ref a1), .val (.int (6 : Int32)), .val (.int (1 : Int32)), .val (.int x1)] [(.int ((0 : Int32) ||| x0))])) _
    refine XS.iload X0.here hx rfl (hb hby d1_23) rfl ?_
    show Steps p.tables e below (s₁.setTop (mkF m 25 #[.val (.ref a1), .val (.int ((0 : Int32) ||| x0)), .val (.ref a1), .val (.int (6 : Int32)), .val (.int (1 : Int32)), .val (.int x1)] [(.int x1), (.int ((0 : Int32) ||| x0))])) _
    refine XS.ior X0.here hx rfl (hb hby d1_25) rfl ?_
    show Steps p.tables e below (s₁.setTop (mkF m 26 #[.val (.ref a1), .val (.int ((0 : Int32) ||| x0)), .val (.ref a1), .val (.int (6 : Int32)), .val (.int (1 : Int32)), .val (.int x1)] [(.int (((0 : Int32) ||| x0) ||| x1))])) _
    refine XS.istoreN X0.here hx rfl (hb hby d1_26) rfl (l' := #[.val (.ref a1), .val (.int (((0 : Int32) ||| x0) ||| x1)), .val (.ref a1), .val (.int (6 : Int32)), .val (.int (1 : Int32)), .val (.int x1)]) rfl ?_
    show Steps p.tables e below (s₁.setTop (mkF m 27 #[.val (.ref a1), .val (.int (((0 : Int32) ||| x0) ||| x1)), .val (.ref a1), .val (.int (6 : Int32)), .val (.int (1 : Int32)), .val (.int x1)] [])) _
    refine XS.iinc X0.here hx rfl (hb hby d1_27) rfl (l' := #[.val (.ref a1), .val (.int (((0 : Int32) ||| x0) ||| x1)), .val (.ref a1), .val (.int (6 : Int32)), .val (.int (2 : Int32)), .val (.int x1)]) rfl ?_
    show Steps p.tables e below (s₁.setTop (mkF m 30 #[.val (.ref a1), .val (.int (((0 : Int32) ||| x0) ||| x1)), .val (.ref a1), .val (.int (6 : Int32)), .val (.int (2 : Int32)), .val (.int x1)] [])) _
    refine XS.goto X0.here hx rfl (pc0 := 30) (pc' := 10) rfl (hb hby d1_30) (by decide) (by decide) ?_
    show Steps p.tables e below (s₁.setTop (mkF m 10 #[.val (.ref a1), .val (.int (((0 : Int32) ||| x0) ||| x1)), .val (.ref a1), .val (.int (6 : Int32)), .val (.int (2 : Int32)), .val (.int x1)] [])) _
    refine XS.iload X0.here hx rfl (hb hby d1_10) rfl ?_
    show Steps p.tables e below (s₁.setTop (mkF m 12 #[.val (.ref a1), .val (.int (((0 : Int32) ||| x0) ||| x1)), .val (.ref a1), .val (.int (6 : Int32)), .val (.int (2 : Int32)), .val (.int x1)] [(.int (2 : Int32))])) _
    refine XS.iloadN X0.here hx rfl (hb hby d1_12) rfl ?_
    show Steps p.tables e below (s₁.setTop (mkF m 13 #[.val (.ref a1), .val (.int (((0 : Int32) ||| x0) ||| x1)), .val (.ref a1), .val (.int (6 : Int32)), .val (.int (2 : Int32)), .val (.int x1)] [(.int (6 : Int32)), (.int (2 : Int32))])) _
    refine XS.icmpNo X0.here hx rfl (hb hby d1_13) rfl (tlt (by decide)).2.1 ?_
    show Steps p.tables e below (s₁.setTop (mkF m 16 #[.val (.ref a1), .val (.int (((0 : Int32) ||| x0) ||| x1)), .val (.ref a1), .val (.int (6 : Int32)), .val (.int (2 : Int32)), .val (.int x1)] [])) _
    refine XS.aloadN X0.here hx rfl (hb hby d1_16) rfl rfl ?_
    show Steps p.tables e below (s₁.setTop (mkF m 17 #[.val (.ref a1), .val (.int (((0 : Int32) ||| x0) ||| x1)), .val (.ref a1), .val (.int (6 : Int32)), .val (.int (2 : Int32)), .val (.int x1)] [(.ref a1)])) _
    refine XS.iload X0.here hx rfl (hb hby d1_17) rfl ?_
    show Steps p.tables e below (s₁.setTop (mkF m 19 #[.val (.ref a1), .val (.int (((0 : Int32) ||| x0) ||| x1)), .val (.ref a1), .val (.int (6 : Int32)), .val (.int (2 : Int32)), .val (.int x1)] [(.int (2 : Int32)), (.ref a1)])) _
    refine X0.baloadBooleans hx (j := (2 : Int32)) (v := (.int x2)) (by first | exact Ar19_4.1 | (rw [e0]; exact Ar19_4.1)) (State.isArrayOf_alike hZ.alike Ar19_4.2.1) Ar19_4.2.2 hin19_4 hat19_4 (g := (mkF m 19 #[.val (.ref a1), .val (.int (((0 : Int32) ||| x0) ||| x1)), .val (.ref a1), .val (.int (6 : Int32)), .val (.int (2 : Int32)), .val (.int x1)] [(.int (2 : Int32)), (.ref a1)])) rfl rfl (hb hby d1_19) _ ?_
    show Steps p.tables e below (s₁.setTop (mkF m 20 #[.val (.ref a1), .val (.int (((0 : Int32) ||| x0) ||| x1)), .val (.ref a1), .val (.int (6 : Int32)), .val (.int (2 : Int32)), .val (.int x1)] [(.int x2)])) _
    refine XS.istore X0.here hx rfl (hb hby d1_20) rfl (l' := #[.val (.ref a1), .val (.int (((0 : Int32) ||| x0) ||| x1)), .val (.ref a1), .val (.int (6 : Int32)), .val (.int (2 : Int32)), .val (.int x2)]) rfl ?_
    show Steps p.tables e below (s₁.setTop (mkF m 22 #[.val (.ref a1), .val (.int (((0 : Int32) ||| x0) ||| x1)), .val (.ref a1), .val (.int (6 : Int32)), .val (.int (2 : Int32)), .val (.int x2)] [])) _
    refine XS.iloadN X0.here hx rfl (hb hby d1_22) rfl ?_
    show Steps p.tables e below (s₁.setTop (mkF m 23 #[.val (.ref a1), .val (.int (((0 : Int32) ||| x0) ||| x1)), .val (.ref a1), .val (.int (6 : Int32)), .val (.int (2 : Int32)), .val (.int x2)] [(.int (((0 : Int32) ||| x0) ||| x1))])) _
    refine XS.iload X0.here hx rfl (hb hby d1_23) rfl ?_
    show Steps p.tables e below (s₁.setTop (mkF m 25 #[.val (.ref a1), .val (.int (((0 : Int32) ||| x0) ||| x1)), .val (.ref a1), .val (.int (6 : Int32)), .val (.int (2 : Int32)), .val (.int x2)] [(.int x2), (.int (((0 : Int32) ||| x0) ||| x1))])) _
    refine XS.ior X0.here hx rfl (hb hby d1_25) rfl ?_
    show Steps p.tables e below (s₁.setTop (mkF m 26 #[.val (.ref a1), .val (.int (((0 : Int32) ||| x0) ||| x1)), .val (.ref a1), .val (.int (6 : Int32)), .val (.int (2 : Int32)), .val (.int x2)] [(.int ((((0 : Int32) ||| x0) ||| x1) ||| x2))])) _
    refine XS.istoreN X0.here hx rfl (hb hby d1_26) rfl (l' := #[.val (.ref a1), .val (.int ((((0 : Int32) ||| x0) ||| x1) ||| x2)), .val (.ref a1), .val (.int (6 : Int32)), .val (.int (2 : Int32)), .val (.int x2)]) rfl ?_
    show Steps p.tables e below (s₁.setTop (mkF m 27 #[.val (.ref a1), .val (.int ((((0 : Int32) ||| x0) ||| x1) ||| x2)), .val (.ref a1), .val (.int (6 : Int32)), .val (.int (2 : Int32)), .val (.int x2)] [])) _
    refine XS.iinc X0.here hx rfl (hb hby d1_27) rfl (l' := #[.val (.ref a1), .val (.int ((((0 : Int32) ||| x0) ||| x1) ||| x2)), .val (.ref a1), .val (.int (6 : Int32)), .val (.int (3 : Int32)), .val (.int x2)]) rfl ?_
    show Steps p.tables e below (s₁.setTop (mkF m 30 #[.val (.ref a1), .val (.int ((((0 : Int32) ||| x0) ||| x1) ||| x2)), .val (.ref a1), .val (.int (6 : Int32)), .val (.int (3 : Int32)), .val (.int x2)] [])) _
    refine XS.goto X0.here hx rfl (pc0 := 30) (pc' := 10) rfl (hb hby d1_30) (by decide) (by decide) ?_
    show Steps p.tables e below (s₁.setTop (mkF m 10 #[.val (.ref a1), .val (.int ((((0 : Int32) ||| x0) ||| x1) ||| x2)), .val (.ref a1), .val (.int (6 : Int32)), .val (.int (3 : Int32)), .val (.int x2)] [])) _
    refine XS.iload X0.here hx rfl (hb hby d1_10) rfl ?_
    show Steps p.tables e below (s₁.setTop (mkF m 12 #[.val (.ref a1), .val (.int ((((0 : Int32) ||| x0) ||| x1) ||| x2)), .val (.ref a1), .val (.int (6 : Int32)), .val (.int (3 : Int32)), .val (.int x2)] [(.int (3 : Int32))])) _
    refine XS.iloadN X0.here hx rfl (hb hby d1_12) rfl ?_
    show Steps p.tables e below (s₁.setTop (mkF m 13 #[.val (.ref a1), .val (.int ((((0 : Int32) ||| x0) ||| x1) ||| x2)), .val (.ref a1), .val (.int (6 : Int32)), .val (.int (3 : Int32)), .val (.int x2)] [(.int (6 : Int32)), (.int (3 : Int32))])) _
    refine XS.icmpNo X0.here hx rfl (hb hby d1_13) rfl (tlt (by decide)).2.1 ?_
    show Steps p.tables e below (s₁.setTop (mkF m 16 #[.val (.ref a1), .val (.int ((((0 : Int32) ||| x0) ||| x1) ||| x2)), .val (.ref a1), .val (.int (6 : Int32)), .val (.int (3 : Int32)), .val (.int x2)] [])) _
    refine XS.aloadN X0.here hx rfl (hb hby d1_16) rfl rfl ?_
    show Steps p.tables e below (s₁.setTop (mkF m 17 #[.val (.ref a1), .val (.int ((((0 : Int32) ||| x0) ||| x1) ||| x2)), .val (.ref a1), .val (.int (6 : Int32)), .val (.int (3 : Int32)), .val (.int x2)] [(.ref a1)])) _
    refine XS.iload X0.here hx rfl (hb hby d1_17) rfl ?_
    show Steps p.tables e below (s₁.setTop (mkF m 19 #[.val (.ref a1), .val (.int ((((0 : Int32) ||| x0) ||| x1) ||| x2)), .val (.ref a1), .val (.int (6 : Int32)), .val (.int (3 : Int32)), .val (.int x2)] [(.int (3 : Int32)), (.ref a1)])) _
    refine X0.baloadBooleans hx (j := (3 : Int32)) (v := (.int x3)) (by first | exact Ar19_5.1 | (rw [e0]; exact Ar19_5.1)) (State.isArrayOf_alike hZ.alike Ar19_5.2.1) Ar19_5.2.2 hin19_5 hat19_5 (g := (mkF m 19 #[.val (.ref a1), .val (.int ((((0 : Int32) ||| x0) ||| x1) ||| x2)), .val (.ref a1), .val (.int (6 : Int32)), .val (.int (3 : Int32)), .val (.int x2)] [(.int (3 : Int32)), (.ref a1)])) rfl rfl (hb hby d1_19) _ ?_
    show Steps p.tables e below (s₁.setTop (mkF m 20 #[.val (.ref a1), .val (.int ((((0 : Int32) ||| x0) ||| x1) ||| x2)), .val (.ref a1), .val (.int (6 : Int32)), .val (.int (3 : Int32)), .val (.int x2)] [(.int x3)])) _
    refine XS.istore X0.here hx rfl (hb hby d1_20) rfl (l' := #[.val (.ref a1), .val (.int ((((0 : Int32) ||| x0) ||| x1) ||| x2)), .val (.ref a1), .val (.int (6 : Int32)), .val (.int (3 : Int32)), .val (.int x3)]) rfl ?_
    show Steps p.tables e below (s₁.setTop (mkF m 22 #[.val (.ref a1), .val (.int ((((0 : Int32) ||| x0) ||| x1) ||| x2)), .val (.ref a1), .val (.int (6 : Int32)), .val (.int (3 : Int32)), .val (.int x3)] [])) _
    refine XS.iloadN X0.here hx rfl (hb hby d1_22) rfl ?_
    show Steps p.tables e below (s₁.setTop (mkF m 23 #[.val (.ref a1), .val (.int ((((0 : Int32) ||| x0) ||| x1) ||| x2)), .val (.ref a1), .val (.int (6 : Int32)), .val (.int (3 : Int32)), .val (.int x3)] [(.int ((((0 : Int32) ||| x0) ||| x1) ||| x2))])) _
    refine XS.iload X0.here hx rfl (hb hby d1_23) rfl ?_
    show Steps p.tables e below (s₁.setTop (mkF m 25 #[.val (.ref a1), .val (.int ((((0 : Int32) ||| x0) ||| x1) ||| x2)), .val (.ref a1), .val (.int (6 : Int32)), .val (.int (3 : Int32)), .val (.int x3)] [(.int x3), (.int ((((0 : Int32) ||| x0) ||| x1) ||| x2))])) _
    refine XS.ior X0.here hx rfl (hb hby d1_25) rfl ?_
    show Steps p.tables e below (s₁.setTop (mkF m 26 #[.val (.ref a1), .val (.int ((((0 : Int32) ||| x0) ||| x1) ||| x2)), .val (.ref a1), .val (.int (6 : Int32)), .val (.int (3 : Int32)), .val (.int x3)] [(.int (((((0 : Int32) ||| x0) ||| x1) ||| x2) ||| x3))])) _
    refine XS.istoreN X0.here hx rfl (hb hby d1_26) rfl (l' := #[.val (.ref a1), .val (.int (((((0 : Int32) ||| x0) ||| x1) ||| x2) ||| x3)), .val (.ref a1), .val (.int (6 : Int32)), .val (.int (3 : Int32)), .val (.int x3)]) rfl ?_
    show Steps p.tables e below (s₁.setTop (mkF m 27 #[.val (.ref a1), .val (.int (((((0 : Int32) ||| x0) ||| x1) ||| x2) ||| x3)), .val (.ref a1), .val (.int (6 : Int32)), .val (.int (3 : Int32)), .val (.int x3)] [])) _
    refine XS.iinc X0.here hx rfl (hb hby d1_27) rfl (l' := #[.val (.ref a1), .val (.int (((((0 : Int32) ||| x0) ||| x1) ||| x2) ||| x3)), .val (.ref a1), .val (.int (6 : Int32)), .val (.int (4 : Int32)), .val (.int x3)]) rfl ?_
    show Steps p.tables e below (s₁.setTop (mkF m 30 #[.val (.ref a1), .val (.int (((((0 : Int32) ||| x0) ||| x1) ||| x2) ||| x3)), .val (.ref a1), .val (.int (6 : Int32)), .val (.int (4 : Int32)), .val (.int x3)] [])) _
    refine XS.goto X0.here hx rfl (pc0 := 30) (pc' := 10) rfl (hb hby d1_30) (by decide) (by decide) ?_
    show Steps p.tables e below (s₁.setTop (mkF m 10 #[.val (.ref a1), .val (.int (((((0 : Int32) ||| x0) ||| x1) ||| x2) ||| x3)), .val (.ref a1), .val (.int (6 : Int32)), .val (.int (4 : Int32)), .val (.int x3)] [])) _
    refine XS.iload X0.here hx rfl (hb hby d1_10) rfl ?_
    show Steps p.tables e below (s₁.setTop (mkF m 12 #[.val (.ref a1), .val (.int (((((0 : Int32) ||| x0) ||| x1) ||| x2) ||| x3)), .val (.ref a1), .val (.int (6 : Int32)), .val (.int (4 : Int32)), .val (.int x3)] [(.int (4 : Int32))])) _
    refine XS.iloadN X0.here hx rfl (hb hby d1_12) rfl ?_
    show Steps p.tables e below (s₁.setTop (mkF m 13 #[.val (.ref a1), .val (.int (((((0 : Int32) ||| x0) ||| x1) ||| x2) ||| x3)), .val (.ref a1), .val (.int (6 : Int32)), .val (.int (4 : Int32)), .val (.int x3)] [(.int (6 : Int32)), (.int (4 : Int32))])) _
    refine XS.icmpNo X0.here hx rfl (hb hby d1_13) rfl (tlt (by decide)).2.1 ?_
    show Steps p.tables e below (s₁.setTop (mkF m 16 #[.val (.ref a1), .val (.int (((((0 : Int32) ||| x0) ||| x1) ||| x2) ||| x3)), .val (.ref a1), .val (.int (6 : Int32)), .val (.int (4 : Int32)), .val (.int x3)] [])) _
    refine XS.aloadN X0.here hx rfl (hb hby d1_16) rfl rfl ?_
    show Steps p.tables e below (s₁.setTop (mkF m 17 #[.val (.ref a1), .val (.int (((((0 : Int32) ||| x0) ||| x1) ||| x2) ||| x3)), .val (.ref a1), .val (.int (6 : Int32)), .val (.int (4 : Int32)), .val (.int x3)] [(.ref a1)])) _
    refine XS.iload X0.here hx rfl (hb hby d1_17) rfl ?_
    show Steps p.tables e below (s₁.setTop (mkF m 19 #[.val (.ref a1), .val (.int (((((0 : Int32) ||| x0) ||| x1) ||| x2) ||| x3)), .val (.ref a1), .val (.int (6 : Int32)), .val (.int (4 : Int32)), .val (.int x3)] [(.int (4 : Int32)), (.ref a1)])) _
    refine X0.baloadBooleans hx (j := (4 : Int32)) (v := (.int x4)) (by first | exact Ar19_6.1 | (rw [e0]; exact Ar19_6.1)) (State.isArrayOf_alike hZ.alike Ar19_6.2.1) Ar19_6.2.2 hin19_6 hat19_6 (g := (mkF m 19 #[.val (.ref a1), .val (.int (((((0 : Int32) ||| x0) ||| x1) ||| x2) ||| x3)), .val (.ref a1), .val (.int (6 : Int32)), .val (.int (4 : Int32)), .val (.int x3)] [(.int (4 : Int32)), (.ref a1)])) rfl rfl (hb hby d1_19) _ ?_
    show Steps p.tables e below (s₁.setTop (mkF m 20 #[.val (.ref a1), .val (.int (((((0 : Int32) ||| x0) ||| x1) ||| x2) ||| x3)), .val (.ref a1), .val (.int (6 : Int32)), .val (.int (4 : Int32)), .val (.int x3)] [(.int x4)])) _
    refine XS.istore X0.here hx rfl (hb hby d1_20) rfl (l' := #[.val (.ref a1), .val (.int (((((0 : Int32) ||| x0) ||| x1) ||| x2) ||| x3)), .val (.ref a1), .val (.int (6 : Int32)), .val (.int (4 : Int32)), .val (.int x4)]) rfl ?_
    show Steps p.tables e below (s₁.setTop (mkF m 22 #[.val (.ref a1), .val (.int (((((0 : Int32) ||| x0) ||| x1) ||| x2) ||| x3)), .val (.ref a1), .val (.int (6 : Int32)), .val (.int (4 : Int32)), .val (.int x4)] [])) _
    refine XS.iloadN X0.here hx rfl (hb hby d1_22) rfl ?_
    show Steps p.tables e below (s₁.setTop (mkF m 23 #[.val (.ref a1), .val (.int (((((0 : Int32) ||| x0) ||| x1) ||| x2) ||| x3)), .val (.ref a1), .val (.int (6 : Int32)), .val (.int (4 : Int32)), .val (.int x4)] [(.int (((((0 : Int32) ||| x0) ||| x1) ||| x2) ||| x3))])) _
    refine XS.iload X0.here hx rfl (hb hby d1_23) rfl ?_
    show Steps p.tables e below (s₁.setTop (mkF m 25 #[.val (.ref a1), .val (.int (((((0 : Int32) ||| x0) ||| x1) ||| x2) ||| x3)), .val (.ref a1), .val (.int (6 : Int32)), .val (.int (4 : Int32)), .val (.int x4)] [(.int x4), (.int (((((0 : Int32) ||| x0) ||| x1) ||| x2) ||| x3))])) _
    refine XS.ior X0.here hx rfl (hb hby d1_25) rfl ?_
    show Steps p.tables e below (s₁.setTop (mkF m 26 #[.val (.ref a1), .val (.int (((((0 : Int32) ||| x0) ||| x1) ||| x2) ||| x3)), .val (.ref a1), .val (.int (6 : Int32)), .val (.int (4 : Int32)), .val (.int x4)] [(.int ((((((0 : Int32) ||| x0) ||| x1) ||| x2) ||| x3) ||| x4))])) _
    refine XS.istoreN X0.here hx rfl (hb hby d1_26) rfl (l' := #[.val (.ref a1), .val (.int ((((((0 : Int32) ||| x0) ||| x1) ||| x2) ||| x3) ||| x4)), .val (.ref a1), .val (.int (6 : Int32)), .val (.int (4 : Int32)), .val (.int x4)]) rfl ?_
    show Steps p.tables e below (s₁.setTop (mkF m 27 #[.val (.ref a1), .val (.int ((((((0 : Int32) ||| x0) ||| x1) ||| x2) ||| x3) ||| x4)), .val (.ref a1), .val (.int (6 : Int32)), .val (.int (4 : Int32)), .val (.int x4)] [])) _
    refine XS.iinc X0.here hx rfl (hb hby d1_27) rfl (l' := #[.val (.ref a1), .val (.int ((((((0 : Int32) ||| x0) ||| x1) ||| x2) ||| x3) ||| x4)), .val (.ref a1), .val (.int (6 : Int32)), .val (.int (5 : Int32)), .val (.int x4)]) rfl ?_
    show Steps p.tables e below (s₁.setTop (mkF m 30 #[.val (.ref a1), .val (.int ((((((0 : Int32) ||| x0) ||| x1) ||| x2) ||| x3) ||| x4)), .val (.ref a1), .val (.int (6 : Int32)), .val (.int (5 : Int32)), .val (.int x4)] [])) _
    refine XS.goto X0.here hx rfl (pc0 := 30) (pc' := 10) rfl (hb hby d1_30) (by decide) (by decide) ?_
    show Steps p.tables e below (s₁.setTop (mkF m 10 #[.val (.ref a1), .val (.int ((((((0 : Int32) ||| x0) ||| x1) ||| x2) ||| x3) ||| x4)), .val (.ref a1), .val (.int (6 : Int32)), .val (.int (5 : Int32)), .val (.int x4)] [])) _
    refine XS.iload X0.here hx rfl (hb hby d1_10) rfl ?_
    show Steps p.tables e below (s₁.setTop (mkF m 12 #[.val (.ref a1), .val (.int ((((((0 : Int32) ||| x0) ||| x1) ||| x2) ||| x3) ||| x4)), .val (.ref a1), .val (.int (6 : Int32)), .val (.int (5 : Int32)), .val (.int x4)] [(.int (5 : Int32))])) _
    refine XS.iloadN X0.here hx rfl (hb hby d1_12) rfl ?_
    show Steps p.tables e below (s₁.setTop (mkF m 13 #[.val (.ref a1), .val (.int ((((((0 : Int32) ||| x0) ||| x1) ||| x2) ||| x3) ||| x4)), .val (.ref a1), .val (.int (6 : Int32)), .val (.int (5 : Int32)), .val (.int x4)] [(.int (6 : Int32)), (.int (5 : Int32))])) _
    refine XS.icmpNo X0.here hx rfl (hb hby d1_13) rfl (tlt (by decide)).2.1 ?_
    show Steps p.tables e below (s₁.setTop (mkF m 16 #[.val (.ref a1), .val (.int ((((((0 : Int32) ||| x0) ||| x1) ||| x2) ||| x3) ||| x4)), .val (.ref a1), .val (.int (6 : Int32)), .val (.int (5 : Int32)), .val (.int x4)] [])) _
    refine XS.aloadN X0.here hx rfl (hb hby d1_16) rfl rfl ?_
    show Steps p.tables e below (s₁.setTop (mkF m 17 #[.val (.ref a1), .val (.int ((((((0 : Int32) ||| x0) ||| x1) ||| x2) ||| x3) ||| x4)), .val (.ref a1), .val (.int (6 : Int32)), .val (.int (5 : Int32)), .val (.int x4)] [(.ref a1)])) _
    refine XS.iload X0.here hx rfl (hb hby d1_17) rfl ?_
    show Steps p.tables e below (s₁.setTop (mkF m 19 #[.val (.ref a1), .val (.int ((((((0 : Int32) ||| x0) ||| x1) ||| x2) ||| x3) ||| x4)), .val (.ref a1), .val (.int (6 : Int32)), .val (.int (5 : Int32)), .val (.int x4)] [(.int (5 : Int32)), (.ref a1)])) _
    refine X0.baloadBooleans hx (j := (5 : Int32)) (v := (.int x5)) (by first | exact Ar19_7.1 | (rw [e0]; exact Ar19_7.1)) (State.isArrayOf_alike hZ.alike Ar19_7.2.1) Ar19_7.2.2 hin19_7 hat19_7 (g := (mkF m 19 #[.val (.ref a1), .val (.int ((((((0 : Int32) ||| x0) ||| x1) ||| x2) ||| x3) ||| x4)), .val (.ref a1), .val (.int (6 : Int32)), .val (.int (5 : Int32)), .val (.int x4)] [(.int (5 : Int32)), (.ref a1)])) rfl rfl (hb hby d1_19) _ ?_
    show Steps p.tables e below (s₁.setTop (mkF m 20 #[.val (.ref a1), .val (.int ((((((0 : Int32) ||| x0) ||| x1) ||| x2) ||| x3) ||| x4)), .val (.ref a1), .val (.int (6 : Int32)), .val (.int (5 : Int32)), .val (.int x4)] [(.int x5)])) _
    refine XS.istore X0.here hx rfl (hb hby d1_20) rfl (l' := #[.val (.ref a1), .val (.int ((((((0 : Int32) ||| x0) ||| x1) ||| x2) ||| x3) ||| x4)), .val (.ref a1), .val (.int (6 : Int32)), .val (.int (5 : Int32)), .val (.int x5)]) rfl ?_
    show Steps p.tables e below (s₁.setTop (mkF m 22 #[.val (.ref a1), .val (.int ((((((0 : Int32) ||| x0) ||| x1) ||| x2) ||| x3) ||| x4)), .val (.ref a1), .val (.int (6 : Int32)), .val (.int (5 : Int32)), .val (.int x5)] [])) _
    refine XS.iloadN X0.here hx rfl (hb hby d1_22) rfl ?_
    show Steps p.tables e below (s₁.setTop (mkF m 23 #[.val (.ref a1), .val (.int ((((((0 : Int32) ||| x0) ||| x1) ||| x2) ||| x3) ||| x4)), .val (.ref a1), .val (.int (6 : Int32)), .val (.int (5 : Int32)), .val (.int x5)] [(.int ((((((0 : Int32) ||| x0) ||| x1) ||| x2) ||| x3) ||| x4))])) _
    refine XS.iload X0.here hx rfl (hb hby d1_23) rfl ?_
    show Steps p.tables e below (s₁.setTop (mkF m 25 #[.val (.ref a1), .val (.int ((((((0 : Int32) ||| x0) ||| x1) ||| x2) ||| x3) ||| x4)), .val (.ref a1), .val (.int (6 : Int32)), .val (.int (5 : Int32)), .val (.int x5)] [(.int x5), (.int ((((((0 : Int32) ||| x0) ||| x1) ||| x2) ||| x3) ||| x4))])) _
    refine XS.ior X0.here hx rfl (hb hby d1_25) rfl ?_
    show Steps p.tables e below (s₁.setTop (mkF m 26 #[.val (.ref a1), .val (.int ((((((0 : Int32) ||| x0) ||| x1) ||| x2) ||| x3) ||| x4)), .val (.ref a1), .val (.int (6 : Int32)), .val (.int (5 : Int32)), .val (.int x5)] [(.int (((((((0 : Int32) ||| x0) ||| x1) ||| x2) ||| x3) ||| x4) ||| x5))])) _
    refine XS.istoreN X0.here hx rfl (hb hby d1_26) rfl (l' := #[.val (.ref a1), .val (.int (((((((0 : Int32) ||| x0) ||| x1) ||| x2) ||| x3) ||| x4) ||| x5)), .val (.ref a1), .val (.int (6 : Int32)), .val (.int (5 : Int32)), .val (.int x5)]) rfl ?_
    show Steps p.tables e below (s₁.setTop (mkF m 27 #[.val (.ref a1), .val (.int (((((((0 : Int32) ||| x0) ||| x1) ||| x2) ||| x3) ||| x4) ||| x5)), .val (.ref a1), .val (.int (6 : Int32)), .val (.int (5 : Int32)), .val (.int x5)] [])) _
    refine XS.iinc X0.here hx rfl (hb hby d1_27) rfl (l' := #[.val (.ref a1), .val (.int (((((((0 : Int32) ||| x0) ||| x1) ||| x2) ||| x3) ||| x4) ||| x5)), .val (.ref a1), .val (.int (6 : Int32)), .val (.int (6 : Int32)), .val (.int x5)]) rfl ?_
    show Steps p.tables e below (s₁.setTop (mkF m 30 #[.val (.ref a1), .val (.int (((((((0 : Int32) ||| x0) ||| x1) ||| x2) ||| x3) ||| x4) ||| x5)), .val (.ref a1), .val (.int (6 : Int32)), .val (.int (6 : Int32)), .val (.int x5)] [])) _
    refine XS.goto X0.here hx rfl (pc0 := 30) (pc' := 10) rfl (hb hby d1_30) (by decide) (by decide) ?_
    show Steps p.tables e below (s₁.setTop (mkF m 10 #[.val (.ref a1), .val (.int (((((((0 : Int32) ||| x0) ||| x1) ||| x2) ||| x3) ||| x4) ||| x5)), .val (.ref a1), .val (.int (6 : Int32)), .val (.int (6 : Int32)), .val (.int x5)] [])) _
    refine XS.iload X0.here hx rfl (hb hby d1_10) rfl ?_
    show Steps p.tables e below (s₁.setTop (mkF m 12 #[.val (.ref a1), .val (.int (((((((0 : Int32) ||| x0) ||| x1) ||| x2) ||| x3) ||| x4) ||| x5)), .val (.ref a1), .val (.int (6 : Int32)), .val (.int (6 : Int32)), .val (.int x5)] [(.int (6 : Int32))])) _
    refine XS.iloadN X0.here hx rfl (hb hby d1_12) rfl ?_
    show Steps p.tables e below (s₁.setTop (mkF m 13 #[.val (.ref a1), .val (.int (((((((0 : Int32) ||| x0) ||| x1) ||| x2) ||| x3) ||| x4) ||| x5)), .val (.ref a1), .val (.int (6 : Int32)), .val (.int (6 : Int32)), .val (.int x5)] [(.int (6 : Int32)), (.int (6 : Int32))])) _
    refine XS.icmpYes X0.here hx rfl (pc0 := 13) (pc' := 33) rfl (hb hby d1_13) rfl (flt (by decide)).2.1 (by decide) (by decide) ?_
    show Steps p.tables e below (s₁.setTop (mkF m 33 #[.val (.ref a1), .val (.int (((((((0 : Int32) ||| x0) ||| x1) ||| x2) ||| x3) ||| x4) ||| x5)), .val (.ref a1), .val (.int (6 : Int32)), .val (.int (6 : Int32)), .val (.int x5)] [])) _
    refine XS.iloadN X0.here hx rfl (hb hby d1_33) rfl ?_
    show Steps p.tables e below (s₁.setTop (mkF m 34 #[.val (.ref a1), .val (.int (((((((0 : Int32) ||| x0) ||| x1) ||| x2) ||| x3) ||| x4) ||| x5)), .val (.ref a1), .val (.int (6 : Int32)), .val (.int (6 : Int32)), .val (.int x5)] [(.int (((((((0 : Int32) ||| x0) ||| x1) ||| x2) ||| x3) ||| x4) ||| x5))])) _
    exact retN X0 hx (t := .boolean) Bd.returns (by simp) (hb hby d1_34) hr
  · show Q1n6 Z a1 kk x0 x1 x2 x3 x4 x5 h0 n0 _ s₁.heap _
    rw [e0]
    have hv : (own_any6 x0 x1 x2 x3 x4 x5) = (nar .boolean (((((((0 : Int32) ||| x0) ||| x1) ||| x2) ||| x3) ||| x4) ||| x5)) := by unfold own_any6; rfl
    exact ⟨by rw [hv], N0, rfl⟩
theorem pn1n7 : plainName "com/example/braided_tour/braidedtour/choice/Logit" = true := by first | (simp [plainName, overriddenIn]; done) | decide +kernel
theorem ef1n7 (m : MethodId) (a1 : Addr) : entryFrame m #[(.ref a1)] 6 = mkF m 0 #[.val (.ref a1), .unset, .unset, .unset, .unset, .unset] [] := by first | (simp [entryFrame, mkF, argsToLocals, Value.category]; done) | rfl
def own_any7 (x0 : Int32) (x1 : Int32) (x2 : Int32) (x3 : Int32) (x4 : Int32) (x5 : Int32) (x6 : Int32) : Int32 := (nar .boolean ((((((((0 : Int32) ||| x0) ||| x1) ||| x2) ||| x3) ||| x4) ||| x5) ||| x6))
def Q1n7 (Z : State) (a1 : Addr) (kk : ClassId) (x0 : Int32) (x1 : Int32) (x2 : Int32) (x3 : Int32) (x4 : Int32) (x5 : Int32) (x6 : Int32) (h0 : Heap) (n0 : Nat) (v : Option Value) (h : Heap) (L : List Loc) : Prop := v = some (.int (own_any7 x0 x1 x2 x3 x4 x5 x6)) ∧ Fr n0 L ∧ h = h0
set_option maxRecDepth 65536 in
set_option maxHeartbeats 40000000 in
theorem rm1n7 (l : Launch) (Z : State) (a0 : Array Value) (hw : ∀ d ∈ tables_1, d.before a0 Z = true) (ws : List Jvm.Cond) (a1 : Addr) (kk : ClassId) (x0 : Int32) (x1 : Int32) (x2 : Int32) (x3 : Int32) (x4 : Int32) (x5 : Int32) (x6 : Int32) (h0 : Heap) (n0 : Nat) (Z0 : n0 ≤ h0.size) (V0 : Arv Z h0 a1 kk .boolean (7 : Int32) [(.int x0), (.int x1), (.int x2), (.int x3), (.int x4), (.int x5), (.int x6)] (.int (0 : Int32))) :
    MetFree l (⟨"com/example/braided_tour/braidedtour/choice/Logit", "anyAvailable", "([Z)Z"⟩ : MethodName) (head1 (Jvm.Cond.code (⟨"com/example/braided_tour/braidedtour/choice/Logit", "anyAvailable", "([Z)Z"⟩ : MethodName) prog_7_method_3_code 6 (some .boolean) :: ws) ({ frames := 0, cells := 0, slots := 0, locals := 0 } : Room)) (fun a U => a = #[(.ref a1)] ∧ Z.Warmed39 U.vm ∧ U.heap = h0) (fun _ _ _ _ _ => True) (fun _ U o U' => ∃ v L, o = .returned v ∧ Q1n7 Z a1 kk x0 x1 x2 x3 x4 x5 x6 h0 n0 v U'.heap L ∧ FrameEnd U o U' L ({ frames := 0, cells := 0, slots := 0, locals := 0 } : Room).cells ({ frames := 0, cells := 0, slots := 0, locals := 0 } : Room).slots) := by
  refine MetFree.of_bodySF (plainFor_of_name pn1n7) hisR ?_
  intro p e s m args below meth c s₁ Bd hml0 hP hK
  obtain ⟨rfl, hZ, hh⟩ := hP
  have hx := Bd.exec
  have hby := Bd.bytes
  have hml : c.maxLocals = 6 := hml0
  have hown : s.vm.findClass "com/example/braided_tour/braidedtour/choice/Logit" = some m.cls := findClass_of_methodNamed Bd.named
  have hnm := (name_of_methodNamed Bd.named Bd.method).1
  have X0 : Stand p l e ({ frames := 0, cells := 0, slots := 0, locals := 0 } : Room) s m #[(.ref a1)] below meth c s₁ [] 0 0 := Stand.of_body Bd
  have e0 : s₁.heap = h0 := by rw [← hh, Bd.state]; rfl
  have N0 := Fr.nil n0
  have pre0 : ∀ t, Steps p.tables e below (s₁.setTop (mkF m 0 #[.val (.ref a1), .unset, .unset, .unset, .unset, .unset] [])) t → Steps p.tables e below (s₁.setTop (entryFrame m #[(.ref a1)] 6)) t := fun t k => castTop (ef1n7 m a1) k
  have cp5_1 := V0
  obtain ⟨cl5_1, Ar5_1, -, Sa5_1, Na5_1, -, -⟩ := cp5_1
  have cp19_2 := V0
  obtain ⟨cl19_2, Ar19_2, -, Sa19_2, Na19_2, Ha19_2, -⟩ := cp19_2
  have hin19_2 : ¬ ((0 : Int32) < 0 ∨ cl19_2.slots.size ≤ ((0 : Int32)).toNatClampNeg) := inb_of Sa19_2 ⟨by decide, by decide⟩
  have hat19_2 : cl19_2.slots[((0 : Int32)).toNatClampNeg]? = some (.int x0) := Ha19_2.at hin19_2 rfl
  have cp19_3 := V0
  obtain ⟨cl19_3, Ar19_3, -, Sa19_3, Na19_3, Ha19_3, -⟩ := cp19_3
  have hin19_3 : ¬ ((1 : Int32) < 0 ∨ cl19_3.slots.size ≤ ((1 : Int32)).toNatClampNeg) := inb_of Sa19_3 ⟨by decide, by decide⟩
  have hat19_3 : cl19_3.slots[((1 : Int32)).toNatClampNeg]? = some (.int x1) := Ha19_3.at hin19_3 rfl
  have cp19_4 := V0
  obtain ⟨cl19_4, Ar19_4, -, Sa19_4, Na19_4, Ha19_4, -⟩ := cp19_4
  have hin19_4 : ¬ ((2 : Int32) < 0 ∨ cl19_4.slots.size ≤ ((2 : Int32)).toNatClampNeg) := inb_of Sa19_4 ⟨by decide, by decide⟩
  have hat19_4 : cl19_4.slots[((2 : Int32)).toNatClampNeg]? = some (.int x2) := Ha19_4.at hin19_4 rfl
  have cp19_5 := V0
  obtain ⟨cl19_5, Ar19_5, -, Sa19_5, Na19_5, Ha19_5, -⟩ := cp19_5
  have hin19_5 : ¬ ((3 : Int32) < 0 ∨ cl19_5.slots.size ≤ ((3 : Int32)).toNatClampNeg) := inb_of Sa19_5 ⟨by decide, by decide⟩
  have hat19_5 : cl19_5.slots[((3 : Int32)).toNatClampNeg]? = some (.int x3) := Ha19_5.at hin19_5 rfl
  have cp19_6 := V0
  obtain ⟨cl19_6, Ar19_6, -, Sa19_6, Na19_6, Ha19_6, -⟩ := cp19_6
  have hin19_6 : ¬ ((4 : Int32) < 0 ∨ cl19_6.slots.size ≤ ((4 : Int32)).toNatClampNeg) := inb_of Sa19_6 ⟨by decide, by decide⟩
  have hat19_6 : cl19_6.slots[((4 : Int32)).toNatClampNeg]? = some (.int x4) := Ha19_6.at hin19_6 rfl
  have cp19_7 := V0
  obtain ⟨cl19_7, Ar19_7, -, Sa19_7, Na19_7, Ha19_7, -⟩ := cp19_7
  have hin19_7 : ¬ ((5 : Int32) < 0 ∨ cl19_7.slots.size ≤ ((5 : Int32)).toNatClampNeg) := inb_of Sa19_7 ⟨by decide, by decide⟩
  have hat19_7 : cl19_7.slots[((5 : Int32)).toNatClampNeg]? = some (.int x5) := Ha19_7.at hin19_7 rfl
  have cp19_8 := V0
  obtain ⟨cl19_8, Ar19_8, -, Sa19_8, Na19_8, Ha19_8, -⟩ := cp19_8
  have hin19_8 : ¬ ((6 : Int32) < 0 ∨ cl19_8.slots.size ≤ ((6 : Int32)).toNatClampNeg) := inb_of Sa19_8 ⟨by decide, by decide⟩
  have hat19_8 : cl19_8.slots[((6 : Int32)).toNatClampNeg]? = some (.int x6) := Ha19_8.at hin19_8 rfl
  obtain ⟨fs, hr, hrun, hended, hW, hsame⟩ := X0.leave (v := some (.int (nar .boolean ((((((((0 : Int32) ||| x0) ||| x1) ||| x2) ||| x3) ||| x4) ||| x5) ||| x6)))) (fun h => by rw [Bd.returns] at h; cases h)
  refine ⟨_, _, pre0 _ ?_, hrun, hended, _, _, rfl, ?_, ⟨_, rfl⟩, hW, hsame.mono (by decide) (by decide)⟩
  · show Steps p.tables e below (s₁.setTop (mkF m 0 #[.val (.ref a1), .unset, .unset, .unset, .unset, .unset] [])) _
    refine XS.iconst X0.here hx rfl (hb hby d1_0) ?_
    show Steps p.tables e below (s₁.setTop (mkF m 1 #[.val (.ref a1), .unset, .unset, .unset, .unset, .unset] [(.int (0 : Int32))])) _
    refine XS.istoreN X0.here hx rfl (hb hby d1_1) rfl (l' := #[.val (.ref a1), .val (.int (0 : Int32)), .unset, .unset, .unset, .unset]) rfl ?_
    show Steps p.tables e below (s₁.setTop (mkF m 2 #[.val (.ref a1), .val (.int (0 : Int32)), .unset, .unset, .unset, .unset] [])) _
    refine XS.aloadN X0.here hx rfl (hb hby d1_2) rfl rfl ?_
    show Steps p.tables e below (s₁.setTop (mkF m 3 #[.val (.ref a1), .val (.int (0 : Int32)), .unset, .unset, .unset, .unset] [(.ref a1)])) _
    refine XS.astoreN X0.here hx rfl (hb hby d1_3) rfl rfl (l' := #[.val (.ref a1), .val (.int (0 : Int32)), .val (.ref a1), .unset, .unset, .unset]) rfl ?_
    show Steps p.tables e below (s₁.setTop (mkF m 4 #[.val (.ref a1), .val (.int (0 : Int32)), .val (.ref a1), .unset, .unset, .unset] [])) _
    refine XS.aloadN X0.here hx rfl (hb hby d1_4) rfl rfl ?_
    show Steps p.tables e below (s₁.setTop (mkF m 5 #[.val (.ref a1), .val (.int (0 : Int32)), .val (.ref a1), .unset, .unset, .unset] [(.ref a1)])) _
    refine X0.arraylength hx (by first | exact Ar5_1.1 | (rw [e0]; exact Ar5_1.1)) (State.isArrayOf_alike hZ.alike Ar5_1.2.1) (g := (mkF m 5 #[.val (.ref a1), .val (.int (0 : Int32)), .val (.ref a1), .unset, .unset, .unset] [(.ref a1)])) rfl rfl (hb hby d1_5) _ ?_
    rw [len_of Sa5_1 Na5_1]
    show Steps p.tables e below (s₁.setTop (mkF m 6 #[.val (.ref a1), .val (.int (0 : Int32)), .val (.ref a1), .unset, .unset, .unset] [(.int (7 : Int32))])) _
    refine XS.istoreN X0.here hx rfl (hb hby d1_6) rfl (l' := #[.val (.ref a1), .val (.int (0 : Int32)), .val (.ref a1), .val (.int (7 : Int32)), .unset, .unset]) rfl ?_
    show Steps p.tables e below (s₁.setTop (mkF m 7 #[.val (.ref a1), .val (.int (0 : Int32)), .val (.ref a1), .val (.int (7 : Int32)), .unset, .unset] [])) _
    refine XS.iconst X0.here hx rfl (hb hby d1_7) ?_
    show Steps p.tables e below (s₁.setTop (mkF m 8 #[.val (.ref a1), .val (.int (0 : Int32)), .val (.ref a1), .val (.int (7 : Int32)), .unset, .unset] [(.int (0 : Int32))])) _
    refine XS.istore X0.here hx rfl (hb hby d1_8) rfl (l' := #[.val (.ref a1), .val (.int (0 : Int32)), .val (.ref a1), .val (.int (7 : Int32)), .val (.int (0 : Int32)), .unset]) rfl ?_
    show Steps p.tables e below (s₁.setTop (mkF m 10 #[.val (.ref a1), .val (.int (0 : Int32)), .val (.ref a1), .val (.int (7 : Int32)), .val (.int (0 : Int32)), .unset] [])) _
    refine XS.iload X0.here hx rfl (hb hby d1_10) rfl ?_
    show Steps p.tables e below (s₁.setTop (mkF m 12 #[.val (.ref a1), .val (.int (0 : Int32)), .val (.ref a1), .val (.int (7 : Int32)), .val (.int (0 : Int32)), .unset] [(.int (0 : Int32))])) _
    refine XS.iloadN X0.here hx rfl (hb hby d1_12) rfl ?_
    show Steps p.tables e below (s₁.setTop (mkF m 13 #[.val (.ref a1), .val (.int (0 : Int32)), .val (.ref a1), .val (.int (7 : Int32)), .val (.int (0 : Int32)), .unset] [(.int (7 : Int32)), (.int (0 : Int32))])) _
    refine XS.icmpNo X0.here hx rfl (hb hby d1_13) rfl (tlt (by decide)).2.1 ?_
    show Steps p.tables e below (s₁.setTop (mkF m 16 #[.val (.ref a1), .val (.int (0 : Int32)), .val (.ref a1), .val (.int (7 : Int32)), .val (.int (0 : Int32)), .unset] [])) _
    refine XS.aloadN X0.here hx rfl (hb hby d1_16) rfl rfl ?_
    show Steps p.tables e below (s₁.setTop (mkF m 17 #[.val (.ref a1), .val (.int (0 : Int32)), .val (.ref a1), .val (.int (7 : Int32)), .val (.int (0 : Int32)), .unset] [(.ref a1)])) _
    refine XS.iload X0.here hx rfl (hb hby d1_17) rfl ?_
    show Steps p.tables e below (s₁.setTop (mkF m 19 #[.val (.ref a1), .val (.int (0 : Int32)), .val (.ref a1), .val (.int (7 : Int32)), .val (.int (0 : Int32)), .unset] [(.int (0 : Int32)), (.ref a1)])) _
    refine X0.baloadBooleans hx (j := (0 : Int32)) (v := (.int x0)) (by first | exact Ar19_2.1 | (rw [e0]; exact Ar19_2.1)) (State.isArrayOf_alike hZ.alike Ar19_2.2.1) Ar19_2.2.2 hin19_2 hat19_2 (g := (mkF m 19 #[.val (.ref a1), .val (.int (0 : Int32)), .val (.ref a1), .val (.int (7 : Int32)), .val (.int (0 : Int32)), .unset] [(.int (0 : Int32)), (.ref a1)])) rfl rfl (hb hby d1_19) _ ?_
    show Steps p.tables e below (s₁.setTop (mkF m 20 #[.val (.ref a1), .val (.int (0 : Int32)), .val (.ref a1), .val (.int (7 : Int32)), .val (.int (0 : Int32)), .unset] [(.int x0)])) _
    refine XS.istore X0.here hx rfl (hb hby d1_20) rfl (l' := #[.val (.ref a1), .val (.int (0 : Int32)), .val (.ref a1), .val (.int (7 : Int32)), .val (.int (0 : Int32)), .val (.int x0)]) rfl ?_
    show Steps p.tables e below (s₁.setTop (mkF m 22 #[.val (.ref a1), .val (.int (0 : Int32)), .val (.ref a1), .val (.int (7 : Int32)), .val (.int (0 : Int32)), .val (.int x0)] [])) _
    refine XS.iloadN X0.here hx rfl (hb hby d1_22) rfl ?_
    show Steps p.tables e below (s₁.setTop (mkF m 23 #[.val (.ref a1), .val (.int (0 : Int32)), .val (.ref a1), .val (.int (7 : Int32)), .val (.int (0 : Int32)), .val (.int x0)] [(.int (0 : Int32))])) _
    refine XS.iload X0.here hx rfl (hb hby d1_23) rfl ?_
    show Steps p.tables e below (s₁.setTop (mkF m 25 #[.val (.ref a1), .val (.int (0 : Int32)), .val (.ref a1), .val (.int (7 : Int32)), .val (.int (0 : Int32)), .val (.int x0)] [(.int x0), (.int (0 : Int32))])) _
    refine XS.ior X0.here hx rfl (hb hby d1_25) rfl ?_
    show Steps p.tables e below (s₁.setTop (mkF m 26 #[.val (.ref a1), .val (.int (0 : Int32)), .val (.ref a1), .val (.int (7 : Int32)), .val (.int (0 : Int32)), .val (.int x0)] [(.int ((0 : Int32) ||| x0))])) _
    refine XS.istoreN X0.here hx rfl (hb hby d1_26) rfl (l' := #[.val (.ref a1), .val (.int ((0 : Int32) ||| x0)), .val (.ref a1), .val (.int (7 : Int32)), .val (.int (0 : Int32)), .val (.int x0)]) rfl ?_
    show Steps p.tables e below (s₁.setTop (mkF m 27 #[.val (.ref a1), .val (.int ((0 : Int32) ||| x0)), .val (.ref a1), .val (.int (7 : Int32)), .val (.int (0 : Int32)), .val (.int x0)] [])) _
    refine XS.iinc X0.here hx rfl (hb hby d1_27) rfl (l' := #[.val (.ref a1), .val (.int ((0 : Int32) ||| x0)), .val (.ref a1), .val (.int (7 : Int32)), .val (.int (1 : Int32)), .val (.int x0)]) rfl ?_
    show Steps p.tables e below (s₁.setTop (mkF m 30 #[.val (.ref a1), .val (.int ((0 : Int32) ||| x0)), .val (.ref a1), .val (.int (7 : Int32)), .val (.int (1 : Int32)), .val (.int x0)] [])) _
    refine XS.goto X0.here hx rfl (pc0 := 30) (pc' := 10) rfl (hb hby d1_30) (by decide) (by decide) ?_
    show Steps p.tables e below (s₁.setTop (mkF m 10 #[.val (.ref a1), .val (.int ((0 : Int32) ||| x0)), .val (.ref a1), .val (.int (7 : Int32)), .val (.int (1 : Int32)), .val (.int x0)] [])) _
    refine XS.iload X0.here hx rfl (hb hby d1_10) rfl ?_
    show Steps p.tables e below (s₁.setTop (mkF m 12 #[.val (.ref a1), .val (.int ((0 : Int32) ||| x0)), .val (.ref a1), .val (.int (7 : Int32)), .val (.int (1 : Int32)), .val (.int x0)] [(.int (1 : Int32))])) _
    refine XS.iloadN X0.here hx rfl (hb hby d1_12) rfl ?_
    show Steps p.tables e below (s₁.setTop (mkF m 13 #[.val (.ref a1), .val (.int ((0 : Int32) ||| x0)), .val (.ref a1), .val (.int (7 : Int32)), .val (.int (1 : Int32)), .val (.int x0)] [(.int (7 : Int32)), (.int (1 : Int32))])) _
    refine XS.icmpNo X0.here hx rfl (hb hby d1_13) rfl (tlt (by decide)).2.1 ?_
    show Steps p.tables e below (s₁.setTop (mkF m 16 #[.val (.ref a1), .val (.int ((0 : Int32) ||| x0)), .val (.ref a1), .val (.int (7 : Int32)), .val (.int (1 : Int32)), .val (.int x0)] [])) _
    refine XS.aloadN X0.here hx rfl (hb hby d1_16) rfl rfl ?_
    show Steps p.tables e below (s₁.setTop (mkF m 17 #[.val (.ref a1), .val (.int ((0 : Int32) ||| x0)), .val (.ref a1), .val (.int (7 : Int32)), .val (.int (1 : Int32)), .val (.int x0)] [(.ref a1)])) _
    refine XS.iload X0.here hx rfl (hb hby d1_17) rfl ?_
    show Steps p.tables e below (s₁.setTop (mkF m 19 #[.val (.ref a1), .val (.int ((0 : Int32) ||| x0)), .val (.ref a1), .val (.int (7 : Int32)), .val (.int (1 : Int32)), .val (.int x0)] [(.int (1 : Int32)), (.ref a1)])) _
    refine X0.baloadBooleans hx (j := (1 : Int32)) (v := (.int x1)) (by first | exact Ar19_3.1 | (rw [e0]; exact Ar19_3.1)) (State.isArrayOf_alike hZ.alike Ar19_3.2.1) Ar19_3.2.2 hin19_3 hat19_3 (g := (mkF m 19 #[.val (.ref a1), .val (.int ((0 : Int32) ||| x0)), .val (.ref a1), .val (.int (7 : Int32)), .val (.int (1 : Int32)), .val (.int x0)] [(.int (1 : Int32)), (.ref a1)])) rfl rfl (hb hby d1_19) _ ?_
    show Steps p.tables e below (s₁.setTop (mkF m 20 #[.val (.ref a1), .val (.int ((0 : Int32) ||| x0)), .val (.ref a1), .val (.int (7 : Int32)), .val (.int (1 : Int32)), .val (.int x0)] [(.int x1)])) _
    refine XS.istore X0.here hx rfl (hb hby d1_20) rfl (l' := #[.val (.ref a1), .val (.int ((0 : Int32) ||| x0)), .val (.ref a1), .val (.int (7 : Int32)), .val (.int (1 : Int32)), .val (.int x1)]) rfl ?_
    show Steps p.tables e below (s₁.setTop (mkF m 22 #[.val (.ref a1), .val (.int ((0 : Int32) ||| x0)), .val (.ref a1), .val (.int (7 : Int32)), .val (.int (1 : Int32)), .val (.int x1)] [])) _
    refine XS.iloadN X0.here hx rfl (hb hby d1_22) rfl ?_
    show Steps p.tables e below (s₁.setTop (mkF m 23 #[.val (.ref a1), .val (.int ((0 : Int32) ||| x0)), .val (.ref a1), .val (.int (7 : Int32)), .val (.int (1 : Int32)), .val (.int x1)] [(.int ((0 : Int32) ||| x0))])) _
    refine XS.iload X0.here hx rfl (hb hby d1_23) rfl ?_
    show Steps p.tables e below (s₁.setTop (mkF m 25 #[.val (.ref a1), .val (.int ((0 : Int32) ||| x0)), .val (.ref a1), .val (.int (7 : Int32)), .val (.int (1 : Int32)), .val (.int x1)] [(.int x1), (.int ((0 : Int32) ||| x0))])) _
    refine XS.ior X0.here hx rfl (hb hby d1_25) rfl ?_
    show Steps p.tables e below (s₁.setTop (mkF m 26 #[.val (.ref a1), .val (.int ((0 : Int32) ||| x0)), .val (.ref a1), .val (.int (7 : Int32)), .val (.int (1 : Int32)), .val (.int x1)] [(.int (((0 : Int32) ||| x0) ||| x1))])) _
    refine XS.istoreN X0.here hx rfl (hb hby d1_26) rfl (l' := #[.val (.ref a1), .val (.int (((0 : Int32) ||| x0) ||| x1)), .val (.ref a1), .val (.int (7 : Int32)), .val (.int (1 : Int32)), .val (.int x1)]) rfl ?_
    show Steps p.tables e below (s₁.setTop (mkF m 27 #[.val (.ref a1), .val (.int (((0 : Int32) ||| x0) ||| x1)), .val (.ref a1), .val (.int (7 : Int32)), .val (.int (1 : Int32)), .val (.int x1)] [])) _
    refine XS.iinc X0.here hx rfl (hb hby d1_27) rfl (l' := #[.val (.ref a1), .val (.int (((0 : Int32) ||| x0) ||| x1)), .val (.ref a1), .val (.int (7 : Int32)), .val (.int (2 : Int32)), .val (.int x1)]) rfl ?_
    show Steps p.tables e below (s₁.setTop (mkF m 30 #[.val (.ref a1), .val (.int (((0 : Int32) ||| x0) ||| x1)), .val (.ref a1), .val (.int (7 : Int32)), .val (.int (2 : Int32)), .val (.int x1)] [])) _
    refine XS.goto X0.here hx rfl (pc0 := 30) (pc' := 10) rfl (hb hby d1_30) (by decide) (by decide) ?_
    show Steps p.tables e below (s₁.setTop (mkF m 10 #[.val (.ref a1), .val (.int (((0 : Int32) ||| x0) ||| x1)), .val (.ref a1), .val (.int (7 : Int32)), .val (.int (2 : Int32)), .val (.int x1)] [])) _
    refine XS.iload X0.here hx rfl (hb hby d1_10) rfl ?_
    show Steps p.tables e below (s₁.setTop (mkF m 12 #[.val (.ref a1), .val (.int (((0 : Int32) ||| x0) ||| x1)), .val (.ref a1), .val (.int (7 : Int32)), .val (.int (2 : Int32)), .val (.int x1)] [(.int (2 : Int32))])) _
    refine XS.iloadN X0.here hx rfl (hb hby d1_12) rfl ?_
    show Steps p.tables e below (s₁.setTop (mkF m 13 #[.val (.ref a1), .val (.int (((0 : Int32) ||| x0) ||| x1)), .val (.ref a1), .val (.int (7 : Int32)), .val (.int (2 : Int32)), .val (.int x1)] [(.int (7 : Int32)), (.int (2 : Int32))])) _
    refine XS.icmpNo X0.here hx rfl (hb hby d1_13) rfl (tlt (by decide)).2.1 ?_
    show Steps p.tables e below (s₁.setTop (mkF m 16 #[.val (.ref a1), .val (.int (((0 : Int32) ||| x0) ||| x1)), .val (.ref a1), .val (.int (7 : Int32)), .val (.int (2 : Int32)), .val (.int x1)] [])) _
    refine XS.aloadN X0.here hx rfl (hb hby d1_16) rfl rfl ?_
    show Steps p.tables e below (s₁.setTop (mkF m 17 #[.val (.ref a1), .val (.int (((0 : Int32) ||| x0) ||| x1)), .val (.ref a1), .val (.int (7 : Int32)), .val (.int (2 : Int32)), .val (.int x1)] [(.ref a1)])) _
    refine XS.iload X0.here hx rfl (hb hby d1_17) rfl ?_
    show Steps p.tables e below (s₁.setTop (mkF m 19 #[.val (.ref a1), .val (.int (((0 : Int32) ||| x0) ||| x1)), .val (.ref a1), .val (.int (7 : Int32)), .val (.int (2 : Int32)), .val (.int x1)] [(.int (2 : Int32)), (.ref a1)])) _
    refine X0.baloadBooleans hx (j := (2 : Int32)) (v := (.int x2)) (by first | exact Ar19_4.1 | (rw [e0]; exact Ar19_4.1)) (State.isArrayOf_alike hZ.alike Ar19_4.2.1) Ar19_4.2.2 hin19_4 hat19_4 (g := (mkF m 19 #[.val (.ref a1), .val (.int (((0 : Int32) ||| x0) ||| x1)), .val (.ref a1), .val (.int (7 : Int32)), .val (.int (2 : Int32)), .val (.int x1)] [(.int (2 : Int32)), (.ref a1)])) rfl rfl (hb hby d1_19) _ ?_
    show Steps p.tables e below (s₁.setTop (mkF m 20 #[.val (.ref a1), .val (.int (((0 : Int32) ||| x0) ||| x1)), .val (.ref a1), .val (.int (7 : Int32)), .val (.int (2 : Int32)), .val (.int x1)] [(.int x2)])) _
    refine XS.istore X0.here hx rfl (hb hby d1_20) rfl (l' := #[.val (.ref a1), .val (.int (((0 : Int32) ||| x0) ||| x1)), .val (.ref a1), .val (.int (7 : Int32)), .val (.int (2 : Int32)), .val (.int x2)]) rfl ?_
    show Steps p.tables e below (s₁.setTop (mkF m 22 #[.val (.ref a1), .val (.int (((0 : Int32) ||| x0) ||| x1)), .val (.ref a1), .val (.int (7 : Int32)), .val (.int (2 : Int32)), .val (.int x2)] [])) _
    refine XS.iloadN X0.here hx rfl (hb hby d1_22) rfl ?_
    show Steps p.tables e below (s₁.setTop (mkF m 23 #[.val (.ref a1), .val (.int (((0 : Int32) ||| x0) ||| x1)), .val (.ref a1), .val (.int (7 : Int32)), .val (.int (2 : Int32)), .val (.int x2)] [(.int (((0 : Int32) ||| x0) ||| x1))])) _
    refine XS.iload X0.here hx rfl (hb hby d1_23) rfl ?_
    show Steps p.tables e below (s₁.setTop (mkF m 25 #[.val (.ref a1), .val (.int (((0 : Int32) ||| x0) ||| x1)), .val (.ref a1), .val (.int (7 : Int32)), .val (.int (2 : Int32)), .val (.int x2)] [(.int x2), (.int (((0 : Int32) ||| x0) ||| x1))])) _
    refine XS.ior X0.here hx rfl (hb hby d1_25) rfl ?_
    show Steps p.tables e below (s₁.setTop (mkF m 26 #[.val (.ref a1), .val (.int (((0 : Int32) ||| x0) ||| x1)), .val (.ref a1), .val (.int (7 : Int32)), .val (.int (2 : Int32)), .val (.int x2)] [(.int ((((0 : Int32) ||| x0) ||| x1) ||| x2))])) _
    refine XS.istoreN X0.here hx rfl (hb hby d1_26) rfl (l' := #[.val (.ref a1), .val (.int ((((0 : Int32) ||| x0) ||| x1) ||| x2)), .val (.ref a1), .val (.int (7 : Int32)), .val (.int (2 : Int32)), .val (.int x2)]) rfl ?_
    show Steps p.tables e below (s₁.setTop (mkF m 27 #[.val (.ref a1), .val (.int ((((0 : Int32) ||| x0) ||| x1) ||| x2)), .val (.ref a1), .val (.int (7 : Int32)), .val (.int (2 : Int32)), .val (.int x2)] [])) _
    refine XS.iinc X0.here hx rfl (hb hby d1_27) rfl (l' := #[.val (.ref a1), .val (.int ((((0 : Int32) ||| x0) ||| x1) ||| x2)), .val (.ref a1), .val (.int (7 : Int32)), .val (.int (3 : Int32)), .val (.int x2)]) rfl ?_
    show Steps p.tables e below (s₁.setTop (mkF m 30 #[.val (.ref a1), .val (.int ((((0 : Int32) ||| x0) ||| x1) ||| x2)), .val (.ref a1), .val (.int (7 : Int32)), .val (.int (3 : Int32)), .val (.int x2)] [])) _
    refine XS.goto X0.here hx rfl (pc0 := 30) (pc' := 10) rfl (hb hby d1_30) (by decide) (by decide) ?_
    show Steps p.tables e below (s₁.setTop (mkF m 10 #[.val (.ref a1), .val (.int ((((0 : Int32) ||| x0) ||| x1) ||| x2)), .val (.ref a1), .val (.int (7 : Int32)), .val (.int (3 : Int32)), .val (.int x2)] [])) _
    refine XS.iload X0.here hx rfl (hb hby d1_10) rfl ?_
    show Steps p.tables e below (s₁.setTop (mkF m 12 #[.val (.ref a1), .val (.int ((((0 : Int32) ||| x0) ||| x1) ||| x2)), .val (.ref a1), .val (.int (7 : Int32)), .val (.int (3 : Int32)), .val (.int x2)] [(.int (3 : Int32))])) _
    refine XS.iloadN X0.here hx rfl (hb hby d1_12) rfl ?_
    show Steps p.tables e below (s₁.setTop (mkF m 13 #[.val (.ref a1), .val (.int ((((0 : Int32) ||| x0) ||| x1) ||| x2)), .val (.ref a1), .val (.int (7 : Int32)), .val (.int (3 : Int32)), .val (.int x2)] [(.int (7 : Int32)), (.int (3 : Int32))])) _
    refine XS.icmpNo X0.here hx rfl (hb hby d1_13) rfl (tlt (by decide)).2.1 ?_
    show Steps p.tables e below (s₁.setTop (mkF m 16 #[.val (.ref a1), .val (.int ((((0 : Int32) ||| x0) ||| x1) ||| x2)), .val (.ref a1), .val (.int (7 : Int32)), .val (.int (3 : Int32)), .val (.int x2)] [])) _
    refine XS.aloadN X0.here hx rfl (hb hby d1_16) rfl rfl ?_
    show Steps p.tables e below (s₁.setTop (mkF m 17 #[.val (.ref a1), .val (.int ((((0 : Int32) ||| x0) ||| x1) ||| x2)), .val (.ref a1), .val (.int (7 : Int32)), .val (.int (3 : Int32)), .val (.int x2)] [(.ref a1)])) _
    refine XS.iload X0.here hx rfl (hb hby d1_17) rfl ?_
    show Steps p.tables e below (s₁.setTop (mkF m 19 #[.val (.ref a1), .val (.int ((((0 : Int32) ||| x0) ||| x1) ||| x2)), .val (.ref a1), .val (.int (7 : Int32)), .val (.int (3 : Int32)), .val (.int x2)] [(.int (3 : Int32)), (.ref a1)])) _
    refine X0.baloadBooleans hx (j := (3 : Int32)) (v := (.int x3)) (by first | exact Ar19_5.1 | (rw [e0]; exact Ar19_5.1)) (State.isArrayOf_alike hZ.alike Ar19_5.2.1) Ar19_5.2.2 hin19_5 hat19_5 (g := (mkF m 19 #[.val (.ref a1), .val (.int ((((0 : Int32) ||| x0) ||| x1) ||| x2)), .val (.ref a1), .val (.int (7 : Int32)), .val (.int (3 : Int32)), .val (.int x2)] [(.int (3 : Int32)), (.ref a1)])) rfl rfl (hb hby d1_19) _ ?_
    show Steps p.tables e below (s₁.setTop (mkF m 20 #[.val (.ref a1), .val (.int ((((0 : Int32) ||| x0) ||| x1) ||| x2)), .val (.ref a1), .val (.int (7 : Int32)), .val (.int (3 : Int32)), .val (.int x2)] [(.int x3)])) _
    refine XS.istore X0.here hx rfl (hb hby d1_20) rfl (l' := #[.val (.ref a1), .val (.int ((((0 : Int32) ||| x0) ||| x1) ||| x2)), .val (.ref a1), .val (.int (7 : Int32)), .val (.int (3 : Int32)), .val (.int x3)]) rfl ?_
    show Steps p.tables e below (s₁.setTop (mkF m 22 #[.val (.ref a1), .val (.int ((((0 : Int32) ||| x0) ||| x1) ||| x2)), .val (.ref a1), .val (.int (7 : Int32)), .val (.int (3 : Int32)), .val (.int x3)] [])) _
    refine XS.iloadN X0.here hx rfl (hb hby d1_22) rfl ?_
    show Steps p.tables e below (s₁.setTop (mkF m 23 #[.val (.ref a1), .val (.int ((((0 : Int32) ||| x0) ||| x1) ||| x2)), .val (.ref a1), .val (.int (7 : Int32)), .val (.int (3 : Int32)), .val (.int x3)] [(.int ((((0 : Int32) ||| x0) ||| x1) ||| x2))])) _
    refine XS.iload X0.here hx rfl (hb hby d1_23) rfl ?_
    show Steps p.tables e below (s₁.setTop (mkF m 25 #[.val (.ref a1), .val (.int ((((0 : Int32) ||| x0) ||| x1) ||| x2)), .val (.ref a1), .val (.int (7 : Int32)), .val (.int (3 : Int32)), .val (.int x3)] [(.int x3), (.int ((((0 : Int32) ||| x0) ||| x1) ||| x2))])) _
    refine XS.ior X0.here hx rfl (hb hby d1_25) rfl ?_
    show Steps p.tables e below (s₁.setTop (mkF m 26 #[.val (.ref a1), .val (.int ((((0 : Int32) ||| x0) ||| x1) ||| x2)), .val (.ref a1), .val (.int (7 : Int32)), .val (.int (3 : Int32)), .val (.int x3)] [(.int (((((0 : Int32) ||| x0) ||| x1) ||| x2) ||| x3))])) _
    refine XS.istoreN X0.here hx rfl (hb hby d1_26) rfl (l' := #[.val (.ref a1), .val (.int (((((0 : Int32) ||| x0) ||| x1) ||| x2) ||| x3)), .val (.ref a1), .val (.int (7 : Int32)), .val (.int (3 : Int32)), .val (.int x3)]) rfl ?_
    show Steps p.tables e below (s₁.setTop (mkF m 27 #[.val (.ref a1), .val (.int (((((0 : Int32) ||| x0) ||| x1) ||| x2) ||| x3)), .val (.ref a1), .val (.int (7 : Int32)), .val (.int (3 : Int32)), .val (.int x3)] [])) _
    refine XS.iinc X0.here hx rfl (hb hby d1_27) rfl (l' := #[.val (.ref a1), .val (.int (((((0 : Int32) ||| x0) ||| x1) ||| x2) ||| x3)), .val (.ref a1), .val (.int (7 : Int32)), .val (.int (4 : Int32)), .val (.int x3)]) rfl ?_
    show Steps p.tables e below (s₁.setTop (mkF m 30 #[.val (.ref a1), .val (.int (((((0 : Int32) ||| x0) ||| x1) ||| x2) ||| x3)), .val (.ref a1), .val (.int (7 : Int32)), .val (.int (4 : Int32)), .val (.int x3)] [])) _
    refine XS.goto X0.here hx rfl (pc0 := 30) (pc' := 10) rfl (hb hby d1_30) (by decide) (by decide) ?_
    show Steps p.tables e below (s₁.setTop (mkF m 10 #[.val (.ref a1), .val (.int (((((0 : Int32) ||| x0) ||| x1) ||| x2) ||| x3)), .val (.ref a1), .val (.int (7 : Int32)), .val (.int (4 : Int32)), .val (.int x3)] [])) _
    refine XS.iload X0.here hx rfl (hb hby d1_10) rfl ?_
    show Steps p.tables e below (s₁.setTop (mkF m 12 #[.val (.ref a1), .val (.int (((((0 : Int32) ||| x0) ||| x1) ||| x2) ||| x3)), .val (.ref a1), .val (.int (7 : Int32)), .val (.int (4 : Int32)), .val (.int x3)] [(.int (4 : Int32))])) _
    refine XS.iloadN X0.here hx rfl (hb hby d1_12) rfl ?_
    show Steps p.tables e below (s₁.setTop (mkF m 13 #[.val (.ref a1), .val (.int (((((0 : Int32) ||| x0) ||| x1) ||| x2) ||| x3)), .val (.ref a1), .val (.int (7 : Int32)), .val (.int (4 : Int32)), .val (.int x3)] [(.int (7 : Int32)), (.int (4 : Int32))])) _
    refine XS.icmpNo X0.here hx rfl (hb hby d1_13) rfl (tlt (by decide)).2.1 ?_
    show Steps p.tables e below (s₁.setTop (mkF m 16 #[.val (.ref a1), .val (.int (((((0 : Int32) ||| x0) ||| x1) ||| x2) ||| x3)), .val (.ref a1), .val (.int (7 : Int32)), .val (.int (4 : Int32)), .val (.int x3)] [])) _
    refine XS.aloadN X0.here hx rfl (hb hby d1_16) rfl rfl ?_
    show Steps p.tables e below (s₁.setTop (mkF m 17 #[.val (.ref a1), .val (.int (((((0 : Int32) ||| x0) ||| x1) ||| x2) ||| x3)), .val (.ref a1), .val (.int (7 : Int32)), .val (.int (4 : Int32)), .val (.int x3)] [(.ref a1)])) _
    refine XS.iload X0.here hx rfl (hb hby d1_17) rfl ?_
    show Steps p.tables e below (s₁.setTop (mkF m 19 #[.val (.ref a1), .val (.int (((((0 : Int32) ||| x0) ||| x1) ||| x2) ||| x3)), .val (.ref a1), .val (.int (7 : Int32)), .val (.int (4 : Int32)), .val (.int x3)] [(.int (4 : Int32)), (.ref a1)])) _
    refine X0.baloadBooleans hx (j := (4 : Int32)) (v := (.int x4)) (by first | exact Ar19_6.1 | (rw [e0]; exact Ar19_6.1)) (State.isArrayOf_alike hZ.alike Ar19_6.2.1) Ar19_6.2.2 hin19_6 hat19_6 (g := (mkF m 19 #[.val (.ref a1), .val (.int (((((0 : Int32) ||| x0) ||| x1) ||| x2) ||| x3)), .val (.ref a1), .val (.int (7 : Int32)), .val (.int (4 : Int32)), .val (.int x3)] [(.int (4 : Int32)), (.ref a1)])) rfl rfl (hb hby d1_19) _ ?_
    show Steps p.tables e below (s₁.setTop (mkF m 20 #[.val (.ref a1), .val (.int (((((0 : Int32) ||| x0) ||| x1) ||| x2) ||| x3)), .val (.ref a1), .val (.int (7 : Int32)), .val (.int (4 : Int32)), .val (.int x3)] [(.int x4)])) _
    refine XS.istore X0.here hx rfl (hb hby d1_20) rfl (l' := #[.val (.ref a1), .val (.int (((((0 : Int32) ||| x0) ||| x1) ||| x2) ||| x3)), .val (.ref a1), .val (.int (7 : Int32)), .val (.int (4 : Int32)), .val (.int x4)]) rfl ?_
    show Steps p.tables e below (s₁.setTop (mkF m 22 #[.val (.ref a1), .val (.int (((((0 : Int32) ||| x0) ||| x1) ||| x2) ||| x3)), .val (.ref a1), .val (.int (7 : Int32)), .val (.int (4 : Int32)), .val (.int x4)] [])) _
    refine XS.iloadN X0.here hx rfl (hb hby d1_22) rfl ?_
    show Steps p.tables e below (s₁.setTop (mkF m 23 #[.val (.ref a1), .val (.int (((((0 : Int32) ||| x0) ||| x1) ||| x2) ||| x3)), .val (.ref a1), .val (.int (7 : Int32)), .val (.int (4 : Int32)), .val (.int x4)] [(.int (((((0 : Int32) ||| x0) ||| x1) ||| x2) ||| x3))])) _
    refine XS.iload X0.here hx rfl (hb hby d1_23) rfl ?_
    show Steps p.tables e below (s₁.setTop (mkF m 25 #[.val (.ref a1), .val (.int (((((0 : Int32) ||| x0) ||| x1) ||| x2) ||| x3)), .val (.ref a1), .val (.int (7 : Int32)), .val (.int (4 : Int32)), .val (.int x4)] [(.int x4), (.int (((((0 : Int32) ||| x0) ||| x1) ||| x2) ||| x3))])) _
    refine XS.ior X0.here hx rfl (hb hby d1_25) rfl ?_
    show Steps p.tables e below (s₁.setTop (mkF m 26 #[.val (.ref a1), .val (.int (((((0 : Int32) ||| x0) ||| x1) ||| x2) ||| x3)), .val (.ref a1), .val (.int (7 : Int32)), .val (.int (4 : Int32)), .val (.int x4)] [(.int ((((((0 : Int32) ||| x0) ||| x1) ||| x2) ||| x3) ||| x4))])) _
    refine XS.istoreN X0.here hx rfl (hb hby d1_26) rfl (l' := #[.val (.ref a1), .val (.int ((((((0 : Int32) ||| x0) ||| x1) ||| x2) ||| x3) ||| x4)), .val (.ref a1), .val (.int (7 : Int32)), .val (.int (4 : Int32)), .val (.int x4)]) rfl ?_
    show Steps p.tables e below (s₁.setTop (mkF m 27 #[.val (.ref a1), .val (.int ((((((0 : Int32) ||| x0) ||| x1) ||| x2) ||| x3) ||| x4)), .val (.ref a1), .val (.int (7 : Int32)), .val (.int (4 : Int32)), .val (.int x4)] [])) _
    refine XS.iinc X0.here hx rfl (hb hby d1_27) rfl (l' := #[.val (.ref a1), .val (.int ((((((0 : Int32) ||| x0) ||| x1) ||| x2) ||| x3) ||| x4)), .val (.ref a1), .val (.int (7 : Int32)), .val (.int (5 : Int32)), .val (.int x4)]) rfl ?_
    show Steps p.tables e below (s₁.setTop (mkF m 30 #[.val (.ref a1), .val (.int ((((((0 : Int32) ||| x0) ||| x1) ||| x2) ||| x3) ||| x4)), .val (.ref a1), .val (.int (7 : Int32)), .val (.int (5 : Int32)), .val (.int x4)] [])) _
    refine XS.goto X0.here hx rfl (pc0 := 30) (pc' := 10) rfl (hb hby d1_30) (by decide) (by decide) ?_
    show Steps p.tables e below (s₁.setTop (mkF m 10 #[.val (.ref a1), .val (.int ((((((0 : Int32) ||| x0) ||| x1) ||| x2) ||| x3) ||| x4)), .val (.ref a1), .val (.int (7 : Int32)), .val (.int (5 : Int32)), .val (.int x4)] [])) _
    refine XS.iload X0.here hx rfl (hb hby d1_10) rfl ?_
    show Steps p.tables e below (s₁.setTop (mkF m 12 #[.val (.ref a1), .val (.int ((((((0 : Int32) ||| x0) ||| x1) ||| x2) ||| x3) ||| x4)), .val (.ref a1), .val (.int (7 : Int32)), .val (.int (5 : Int32)), .val (.int x4)] [(.int (5 : Int32))])) _
    refine XS.iloadN X0.here hx rfl (hb hby d1_12) rfl ?_
    show Steps p.tables e below (s₁.setTop (mkF m 13 #[.val (.ref a1), .val (.int ((((((0 : Int32) ||| x0) ||| x1) ||| x2) ||| x3) ||| x4)), .val (.ref a1), .val (.int (7 : Int32)), .val (.int (5 : Int32)), .val (.int x4)] [(.int (7 : Int32)), (.int (5 : Int32))])) _
    refine XS.icmpNo X0.here hx rfl (hb hby d1_13) rfl (tlt (by decide)).2.1 ?_
    show Steps p.tables e below (s₁.setTop (mkF m 16 #[.val (.ref a1), .val (.int ((((((0 : Int32) ||| x0) ||| x1) ||| x2) ||| x3) ||| x4)), .val (.ref a1), .val (.int (7 : Int32)), .val (.int (5 : Int32)), .val (.int x4)] [])) _
    refine XS.aloadN X0.here hx rfl (hb hby d1_16) rfl rfl ?_
    show Steps p.tables e below (s₁.setTop (mkF m 17 #[.val (.ref a1), .val (.int ((((((0 : Int32) ||| x0) ||| x1) ||| x2) ||| x3) ||| x4)), .val (.ref a1), .val (.int (7 : Int32)), .val (.int (5 : Int32)), .val (.int x4)] [(.ref a1)])) _
    refine XS.iload X0.here hx rfl (hb hby d1_17) rfl ?_
    show Steps p.tables e below (s₁.setTop (mkF m 19 #[.val (.ref a1), .val (.int ((((((0 : Int32) ||| x0) ||| x1) ||| x2) ||| x3) ||| x4)), .val (.ref a1), .val (.int (7 : Int32)), .val (.int (5 : Int32)), .val (.int x4)] [(.int (5 : Int32)), (.ref a1)])) _
    refine X0.baloadBooleans hx (j := (5 : Int32)) (v := (.int x5)) (by first | exact Ar19_7.1 | (rw [e0]; exact Ar19_7.1)) (State.isArrayOf_alike hZ.alike Ar19_7.2.1) Ar19_7.2.2 hin19_7 hat19_7 (g := (mkF m 19 #[.val (.ref a1), .val (.int ((((((0 : Int32) ||| x0) ||| x1) ||| x2) ||| x3) ||| x4)), .val (.ref a1), .val (.int (7 : Int32)), .val (.int (5 : Int32)), .val (.int x4)] [(.int (5 : Int32)), (.ref a1)])) rfl rfl (hb hby d1_19) _ ?_
    show Steps p.tables e below (s₁.setTop (mkF m 20 #[.val (.ref a1), .val (.int ((((((0 : Int32) ||| x0) ||| x1) ||| x2) ||| x3) ||| x4)), .val (.ref a1), .val (.int (7 : Int32)), .val (.int (5 : Int32)), .val (.int x4)] [(.int x5)])) _
    refine XS.istore X0.here hx rfl (hb hby d1_20) rfl (l' := #[.val (.ref a1), .val (.int ((((((0 : Int32) ||| x0) ||| x1) ||| x2) ||| x3) ||| x4)), .val (.ref a1), .val (.int (7 : Int32)), .val (.int (5 : Int32)), .val (.int x5)]) rfl ?_
    show Steps p.tables e below (s₁.setTop (mkF m 22 #[.val (.ref a1), .val (.int ((((((0 : Int32) ||| x0) ||| x1) ||| x2) ||| x3) ||| x4)), .val (.ref a1), .val (.int (7 : Int32)), .val (.int (5 : Int32)), .val (.int x5)] [])) _
    refine XS.iloadN X0.here hx rfl (hb hby d1_22) rfl ?_
    show Steps p.tables e below (s₁.setTop (mkF m 23 #[.val (.ref a1), .val (.int ((((((0 : Int32) ||| x0) ||| x1) ||| x2) ||| x3) ||| x4)), .val (.ref a1), .val (.int (7 : Int32)), .val (.int (5 : Int32)), .val (.int x5)] [(.int ((((((0 : Int32) ||| x0) ||| x1) ||| x2) ||| x3) ||| x4))])) _
    refine XS.iload X0.here hx rfl (hb hby d1_23) rfl ?_
    show Steps p.tables e below (s₁.setTop (mkF m 25 #[.val (.ref a1), .val (.int ((((((0 : Int32) ||| x0) ||| x1) ||| x2) ||| x3) ||| x4)), .val (.ref a1), .val (.int (7 : Int32)), .val (.int (5 : Int32)), .val (.int x5)] [(.int x5), (.int ((((((0 : Int32) ||| x0) ||| x1) ||| x2) ||| x3) ||| x4))])) _
    refine XS.ior X0.here hx rfl (hb hby d1_25) rfl ?_
    show Steps p.tables e below (s₁.setTop (mkF m 26 #[.val (.ref a1), .val (.int ((((((0 : Int32) ||| x0) ||| x1) ||| x2) ||| x3) ||| x4)), .val (.ref a1), .val (.int (7 : Int32)), .val (.int (5 : Int32)), .val (.int x5)] [(.int (((((((0 : Int32) ||| x0) ||| x1) ||| x2) ||| x3) ||| x4) ||| x5))])) _
    refine XS.istoreN X0.here hx rfl (hb hby d1_26) rfl (l' := #[.val (.ref a1), .val (.int (((((((0 : Int32) ||| x0) ||| x1) ||| x2) ||| x3) ||| x4) ||| x5)), .val (.ref a1), .val (.int (7 : Int32)), .val (.int (5 : Int32)), .val (.int x5)]) rfl ?_
    show Steps p.tables e below (s₁.setTop (mkF m 27 #[.val (.ref a1), .val (.int (((((((0 : Int32) ||| x0) ||| x1) ||| x2) ||| x3) ||| x4) ||| x5)), .val (.ref a1), .val (.int (7 : Int32)), .val (.int (5 : Int32)), .val (.int x5)] [])) _
    refine XS.iinc X0.here hx rfl (hb hby d1_27) rfl (l' := #[.val (.ref a1), .val (.int (((((((0 : Int32) ||| x0) ||| x1) ||| x2) ||| x3) ||| x4) ||| x5)), .val (.ref a1), .val (.int (7 : Int32)), .val (.int (6 : Int32)), .val (.int x5)]) rfl ?_
    show Steps p.tables e below (s₁.setTop (mkF m 30 #[.val (.ref a1), .val (.int (((((((0 : Int32) ||| x0) ||| x1) ||| x2) ||| x3) ||| x4) ||| x5)), .val (.ref a1), .val (.int (7 : Int32)), .val (.int (6 : Int32)), .val (.int x5)] [])) _
    refine XS.goto X0.here hx rfl (pc0 := 30) (pc' := 10) rfl (hb hby d1_30) (by decide) (by decide) ?_
    show Steps p.tables e below (s₁.setTop (mkF m 10 #[.val (.ref a1), .val (.int (((((((0 : Int32) ||| x0) ||| x1) ||| x2) ||| x3) ||| x4) ||| x5)), .val (.ref a1), .val (.int (7 : Int32)), .val (.int (6 : Int32)), .val (.int x5)] [])) _
    refine XS.iload X0.here hx rfl (hb hby d1_10) rfl ?_
    show Steps p.tables e below (s₁.setTop (mkF m 12 #[.val (.ref a1), .val (.int (((((((0 : Int32) ||| x0) ||| x1) ||| x2) ||| x3) ||| x4) ||| x5)), .val (.ref a1), .val (.int (7 : Int32)), .val (.int (6 : Int32)), .val (.int x5)] [(.int (6 : Int32))])) _
    refine XS.iloadN X0.here hx rfl (hb hby d1_12) rfl ?_
    show Steps p.tables e below (s₁.setTop (mkF m 13 #[.val (.ref a1), .val (.int (((((((0 : Int32) ||| x0) ||| x1) ||| x2) ||| x3) ||| x4) ||| x5)), .val (.ref a1), .val (.int (7 : Int32)), .val (.int (6 : Int32)), .val (.int x5)] [(.int (7 : Int32)), (.int (6 : Int32))])) _
    refine XS.icmpNo X0.here hx rfl (hb hby d1_13) rfl (tlt (by decide)).2.1 ?_
    show Steps p.tables e below (s₁.setTop (mkF m 16 #[.val (.ref a1), .val (.int (((((((0 : Int32) ||| x0) ||| x1) ||| x2) ||| x3) ||| x4) ||| x5)), .val (.ref a1), .val (.int (7 : Int32)), .val (.int (6 : Int32)), .val (.int x5)] [])) _
    refine XS.aloadN X0.here hx rfl (hb hby d1_16) rfl rfl ?_
    show Steps p.tables e below (s₁.setTop (mkF m 17 #[.val (.ref a1), .val (.int (((((((0 : Int32) ||| x0) ||| x1) ||| x2) ||| x3) ||| x4) ||| x5)), .val (.ref a1), .val (.int (7 : Int32)), .val (.int (6 : Int32)), .val (.int x5)] [(.ref a1)])) _
    refine XS.iload X0.here hx rfl (hb hby d1_17) rfl ?_
    show Steps p.tables e below (s₁.setTop (mkF m 19 #[.val (.ref a1), .val (.int (((((((0 : Int32) ||| x0) ||| x1) ||| x2) ||| x3) ||| x4) ||| x5)), .val (.ref a1), .val (.int (7 : Int32)), .val (.int (6 : Int32)), .val (.int x5)] [(.int (6 : Int32)), (.ref a1)])) _
    refine X0.baloadBooleans hx (j := (6 : Int32)) (v := (.int x6)) (by first | exact Ar19_8.1 | (rw [e0]; exact Ar19_8.1)) (State.isArrayOf_alike hZ.alike Ar19_8.2.1) Ar19_8.2.2 hin19_8 hat19_8 (g := (mkF m 19 #[.val (.ref a1), .val (.int (((((((0 : Int32) ||| x0) ||| x1) ||| x2) ||| x3) ||| x4) ||| x5)), .val (.ref a1), .val (.int (7 : Int32)), .val (.int (6 : Int32)), .val (.int x5)] [(.int (6 : Int32)), (.ref a1)])) rfl rfl (hb hby d1_19) _ ?_
    show Steps p.tables e below (s₁.setTop (mkF m 20 #[.val (.ref a1), .val (.int (((((((0 : Int32) ||| x0) ||| x1) ||| x2) ||| x3) ||| x4) ||| x5)), .val (.ref a1), .val (.int (7 : Int32)), .val (.int (6 : Int32)), .val (.int x5)] [(.int x6)])) _
    refine XS.istore X0.here hx rfl (hb hby d1_20) rfl (l' := #[.val (.ref a1), .val (.int (((((((0 : Int32) ||| x0) ||| x1) ||| x2) ||| x3) ||| x4) ||| x5)), .val (.ref a1), .val (.int (7 : Int32)), .val (.int (6 : Int32)), .val (.int x6)]) rfl ?_
    show Steps p.tables e below (s₁.setTop (mkF m 22 #[.val (.ref a1), .val (.int (((((((0 : Int32) ||| x0) ||| x1) ||| x2) ||| x3) ||| x4) ||| x5)), .val (.ref a1), .val (.int (7 : Int32)), .val (.int (6 : Int32)), .val (.int x6)] [])) _
    refine XS.iloadN X0.here hx rfl (hb hby d1_22) rfl ?_
    show Steps p.tables e below (s₁.setTop (mkF m 23 #[.val (.ref a1), .val (.int (((((((0 : Int32) ||| x0) ||| x1) ||| x2) ||| x3) ||| x4) ||| x5)), .val (.ref a1), .val (.int (7 : Int32)), .val (.int (6 : Int32)), .val (.int x6)] [(.int (((((((0 : Int32) ||| x0) ||| x1) ||| x2) ||| x3) ||| x4) ||| x5))])) _
    refine XS.iload X0.here hx rfl (hb hby d1_23) rfl ?_
    show Steps p.tables e below (s₁.setTop (mkF m 25 #[.val (.ref a1), .val (.int (((((((0 : Int32) ||| x0) ||| x1) ||| x2) ||| x3) ||| x4) ||| x5)), .val (.ref a1), .val (.int (7 : Int32)), .val (.int (6 : Int32)), .val (.int x6)] [(.int x6), (.int (((((((0 : Int32) ||| x0) ||| x1) ||| x2) ||| x3) ||| x4) ||| x5))])) _
    refine XS.ior X0.here hx rfl (hb hby d1_25) rfl ?_
    show Steps p.tables e below (s₁.setTop (mkF m 26 #[.val (.ref a1), .val (.int (((((((0 : Int32) ||| x0) ||| x1) ||| x2) ||| x3) ||| x4) ||| x5)), .val (.ref a1), .val (.int (7 : Int32)), .val (.int (6 : Int32)), .val (.int x6)] [(.int ((((((((0 : Int32) ||| x0) ||| x1) ||| x2) ||| x3) ||| x4) ||| x5) ||| x6))])) _
    refine XS.istoreN X0.here hx rfl (hb hby d1_26) rfl (l' := #[.val (.ref a1), .val (.int ((((((((0 : Int32) ||| x0) ||| x1) ||| x2) ||| x3) ||| x4) ||| x5) ||| x6)), .val (.ref a1), .val (.int (7 : Int32)), .val (.int (6 : Int32)), .val (.int x6)]) rfl ?_
    show Steps p.tables e below (s₁.setTop (mkF m 27 #[.val (.ref a1), .val (.int ((((((((0 : Int32) ||| x0) ||| x1) ||| x2) ||| x3) ||| x4) ||| x5) ||| x6)), .val (.ref a1), .val (.int (7 : Int32)), .val (.int (6 : Int32)), .val (.int x6)] [])) _
    refine XS.iinc X0.here hx rfl (hb hby d1_27) rfl (l' := #[.val (.ref a1), .val (.int ((((((((0 : Int32) ||| x0) ||| x1) ||| x2) ||| x3) ||| x4) ||| x5) ||| x6)), .val (.ref a1), .val (.int (7 : Int32)), .val (.int (7 : Int32)), .val (.int x6)]) rfl ?_
    show Steps p.tables e below (s₁.setTop (mkF m 30 #[.val (.ref a1), .val (.int ((((((((0 : Int32) ||| x0) ||| x1) ||| x2) ||| x3) ||| x4) ||| x5) ||| x6)), .val (.ref a1), .val (.int (7 : Int32)), .val (.int (7 : Int32)), .val (.int x6)] [])) _
    refine XS.goto X0.here hx rfl (pc0 := 30) (pc' := 10) rfl (hb hby d1_30) (by decide) (by decide) ?_
    show Steps p.tables e below (s₁.setTop (mkF m 10 #[.val (.ref a1), .val (.int ((((((((0 : Int32) ||| x0) ||| x1) ||| x2) ||| x3) ||| x4) ||| x5) ||| x6)), .val (.ref a1), .val (.int (7 : Int32)), .val (.int (7 : Int32)), .val (.int x6)] [])) _
    refine XS.iload X0.here hx rfl (hb hby d1_10) rfl ?_
    show Steps p.tables e below (s₁.setTop (mkF m 12 #[.val (.ref a1), .val (.int ((((((((0 : Int32) ||| x0) ||| x1) ||| x2) ||| x3) ||| x4) ||| x5) ||| x6)), .val (.ref a1), .val (.int (7 : Int32)), .val (.int (7 : Int32)), .val (.int x6)] [(.int (7 : Int32))])) _
    refine XS.iloadN X0.here hx rfl (hb hby d1_12) rfl ?_
    show Steps p.tables e below (s₁.setTop (mkF m 13 #[.val (.ref a1), .val (.int ((((((((0 : Int32) ||| x0) ||| x1) ||| x2) ||| x3) ||| x4) ||| x5) ||| x6)), .val (.ref a1), .val (.int (7 : Int32)), .val (.int (7 : Int32)), .val (.int x6)] [(.int (7 : Int32)), (.int (7 : Int32))])) _
    refine XS.icmpYes X0.here hx rfl (pc0 := 13) (pc' := 33) rfl (hb hby d1_13) rfl (flt (by decide)).2.1 (by decide) (by decide) ?_
    show Steps p.tables e below (s₁.setTop (mkF m 33 #[.val (.ref a1), .val (.int ((((((((0 : Int32) ||| x0) ||| x1) ||| x2) ||| x3) ||| x4) ||| x5) ||| x6)), .val (.ref a1), .val (.int (7 : Int32)), .val (.int (7 : Int32)), .val (.int x6)] [])) _
    refine XS.iloadN X0.here hx rfl (hb hby d1_33) rfl ?_
    show Steps p.tables e below (s₁.setTop (mkF m 34 #[.val (.ref a1), .val (.int ((((((((0 : Int32) ||| x0) ||| x1) ||| x2) ||| x3) ||| x4) ||| x5) ||| x6)), .val (.ref a1), .val (.int (7 : Int32)), .val (.int (7 : Int32)), .val (.int x6)] [(.int ((((((((0 : Int32) ||| x0) ||| x1) ||| x2) ||| x3) ||| x4) ||| x5) ||| x6))])) _
    exact retN X0 hx (t := .boolean) Bd.returns (by simp) (hb hby d1_34) hr
  · show Q1n7 Z a1 kk x0 x1 x2 x3 x4 x5 x6 h0 n0 _ s₁.heap _
    rw [e0]
    have hv : (own_any7 x0 x1 x2 x3 x4 x5 x6) = (nar .boolean ((((((((0 : Int32) ||| x0) ||| x1) ||| x2) ||| x3) ||| x4) ||| x5) ||| x6)) := by unfold own_any7; rfl
    exact ⟨by rw [hv], N0, rfl⟩
theorem own_low (x : Int32) (n : Nat) (hn : n < 128) (h : x.toBitVec.toNat = n) : x = Int32.ofNat n := by
  apply Int32.toBitVec_inj.mp
  apply BitVec.eq_of_toNat_eq
  show x.toBitVec.toNat = (BitVec.ofNat 32 n).toNat
  rw [BitVec.toNat_ofNat, Nat.mod_eq_of_lt (by omega)]; exact h
theorem own_m127 (x : Int32) : (x &&& (127 : Int32)).toBitVec.toNat = x.toBitVec.toNat % 128 := by
  show (x.toBitVec &&& BitVec.ofNat 32 127).toNat = _
  rw [BitVec.toNat_and]
  exact Nat.and_two_pow_sub_one_eq_mod x.toBitVec.toNat 7
theorem own_m7 (x : Int32) : (x &&& (7 : Int32)).toBitVec.toNat = x.toBitVec.toNat % 8 := by
  show (x.toBitVec &&& BitVec.ofNat 32 7).toNat = _
  rw [BitVec.toNat_and]
  exact Nat.and_two_pow_sub_one_eq_mod x.toBitVec.toNat 3
theorem own_eight : ∀ n : Fin 8, Int32.ofNat n.1 = (0 : Int32) ∨ Int32.ofNat n.1 = (1 : Int32) ∨ Int32.ofNat n.1 = (2 : Int32) ∨ Int32.ofNat n.1 = (3 : Int32) ∨ Int32.ofNat n.1 = (4 : Int32) ∨ Int32.ofNat n.1 = (5 : Int32) ∨ Int32.ofNat n.1 = (6 : Int32) ∨ Int32.ofNat n.1 = (7 : Int32) := by decide
theorem own_n (p1 : Int32) : (p1 &&& (7 : Int32)) = (0 : Int32) ∨ (p1 &&& (7 : Int32)) = (1 : Int32) ∨ (p1 &&& (7 : Int32)) = (2 : Int32) ∨ (p1 &&& (7 : Int32)) = (3 : Int32) ∨ (p1 &&& (7 : Int32)) = (4 : Int32) ∨ (p1 &&& (7 : Int32)) = (5 : Int32) ∨ (p1 &&& (7 : Int32)) = (6 : Int32) ∨ (p1 &&& (7 : Int32)) = (7 : Int32) := by
  have h := own_m7 p1
  have e := own_low (p1 &&& 7) (p1.toBitVec.toNat % 8) (by omega) h
  have q := own_eight ⟨p1.toBitVec.toNat % 8, by omega⟩
  rw [e]; exact q
theorem own_bit_0 (x : Int32) : own_bit x (0 : Int32) = own_bit (x &&& 127) (0 : Int32) := by
  have e : ((x.toUInt32 >>> ((0 : Int32) &&& 31).toUInt32).toInt32 &&& (1 : Int32)) = (((x &&& 127).toUInt32 >>> ((0 : Int32) &&& 31).toUInt32).toInt32 &&& (1 : Int32)) := by
    apply Int32.toBitVec_inj.mp
    apply BitVec.eq_of_toNat_eq
    show ((x.toBitVec >>> (0 : Nat)) &&& BitVec.ofNat 32 1).toNat = (((x &&& 127).toBitVec >>> (0 : Nat)) &&& BitVec.ofNat 32 1).toNat
    have h := own_m127 x
    rw [BitVec.toNat_and, BitVec.toNat_and, BitVec.toNat_ushiftRight, BitVec.toNat_ushiftRight, h]
    show (x.toBitVec.toNat >>> 0) &&& 1 = ((x.toBitVec.toNat % 128) >>> 0) &&& 1
    rw [Nat.and_one_is_mod, Nat.and_one_is_mod, Nat.shiftRight_eq_div_pow, Nat.shiftRight_eq_div_pow]
    omega
  unfold own_bit
  rw [e]
theorem own_bit_1 (x : Int32) : own_bit x (1 : Int32) = own_bit (x &&& 127) (1 : Int32) := by
  have e : ((x.toUInt32 >>> ((1 : Int32) &&& 31).toUInt32).toInt32 &&& (1 : Int32)) = (((x &&& 127).toUInt32 >>> ((1 : Int32) &&& 31).toUInt32).toInt32 &&& (1 : Int32)) := by
    apply Int32.toBitVec_inj.mp
    apply BitVec.eq_of_toNat_eq
    show ((x.toBitVec >>> (1 : Nat)) &&& BitVec.ofNat 32 1).toNat = (((x &&& 127).toBitVec >>> (1 : Nat)) &&& BitVec.ofNat 32 1).toNat
    have h := own_m127 x
    rw [BitVec.toNat_and, BitVec.toNat_and, BitVec.toNat_ushiftRight, BitVec.toNat_ushiftRight, h]
    show (x.toBitVec.toNat >>> 1) &&& 1 = ((x.toBitVec.toNat % 128) >>> 1) &&& 1
    rw [Nat.and_one_is_mod, Nat.and_one_is_mod, Nat.shiftRight_eq_div_pow, Nat.shiftRight_eq_div_pow]
    omega
  unfold own_bit
  rw [e]
theorem own_bit_2 (x : Int32) : own_bit x (2 : Int32) = own_bit (x &&& 127) (2 : Int32) := by
  have e : ((x.toUInt32 >>> ((2 : Int32) &&& 31).toUInt32).toInt32 &&& (1 : Int32)) = (((x &&& 127).toUInt32 >>> ((2 : Int32) &&& 31).toUInt32).toInt32 &&& (1 : Int32)) := by
    apply Int32.toBitVec_inj.mp
    apply BitVec.eq_of_toNat_eq
    show ((x.toBitVec >>> (2 : Nat)) &&& BitVec.ofNat 32 1).toNat = (((x &&& 127).toBitVec >>> (2 : Nat)) &&& BitVec.ofNat 32 1).toNat
    have h := own_m127 x
    rw [BitVec.toNat_and, BitVec.toNat_and, BitVec.toNat_ushiftRight, BitVec.toNat_ushiftRight, h]
    show (x.toBitVec.toNat >>> 2) &&& 1 = ((x.toBitVec.toNat % 128) >>> 2) &&& 1
    rw [Nat.and_one_is_mod, Nat.and_one_is_mod, Nat.shiftRight_eq_div_pow, Nat.shiftRight_eq_div_pow]
    omega
  unfold own_bit
  rw [e]
theorem own_bit_3 (x : Int32) : own_bit x (3 : Int32) = own_bit (x &&& 127) (3 : Int32) := by
  have e : ((x.toUInt32 >>> ((3 : Int32) &&& 31).toUInt32).toInt32 &&& (1 : Int32)) = (((x &&& 127).toUInt32 >>> ((3 : Int32) &&& 31).toUInt32).toInt32 &&& (1 : Int32)) := by
    apply Int32.toBitVec_inj.mp
    apply BitVec.eq_of_toNat_eq
    show ((x.toBitVec >>> (3 : Nat)) &&& BitVec.ofNat 32 1).toNat = (((x &&& 127).toBitVec >>> (3 : Nat)) &&& BitVec.ofNat 32 1).toNat
    have h := own_m127 x
    rw [BitVec.toNat_and, BitVec.toNat_and, BitVec.toNat_ushiftRight, BitVec.toNat_ushiftRight, h]
    show (x.toBitVec.toNat >>> 3) &&& 1 = ((x.toBitVec.toNat % 128) >>> 3) &&& 1
    rw [Nat.and_one_is_mod, Nat.and_one_is_mod, Nat.shiftRight_eq_div_pow, Nat.shiftRight_eq_div_pow]
    omega
  unfold own_bit
  rw [e]
theorem own_bit_4 (x : Int32) : own_bit x (4 : Int32) = own_bit (x &&& 127) (4 : Int32) := by
  have e : ((x.toUInt32 >>> ((4 : Int32) &&& 31).toUInt32).toInt32 &&& (1 : Int32)) = (((x &&& 127).toUInt32 >>> ((4 : Int32) &&& 31).toUInt32).toInt32 &&& (1 : Int32)) := by
    apply Int32.toBitVec_inj.mp
    apply BitVec.eq_of_toNat_eq
    show ((x.toBitVec >>> (4 : Nat)) &&& BitVec.ofNat 32 1).toNat = (((x &&& 127).toBitVec >>> (4 : Nat)) &&& BitVec.ofNat 32 1).toNat
    have h := own_m127 x
    rw [BitVec.toNat_and, BitVec.toNat_and, BitVec.toNat_ushiftRight, BitVec.toNat_ushiftRight, h]
    show (x.toBitVec.toNat >>> 4) &&& 1 = ((x.toBitVec.toNat % 128) >>> 4) &&& 1
    rw [Nat.and_one_is_mod, Nat.and_one_is_mod, Nat.shiftRight_eq_div_pow, Nat.shiftRight_eq_div_pow]
    omega
  unfold own_bit
  rw [e]
theorem own_bit_5 (x : Int32) : own_bit x (5 : Int32) = own_bit (x &&& 127) (5 : Int32) := by
  have e : ((x.toUInt32 >>> ((5 : Int32) &&& 31).toUInt32).toInt32 &&& (1 : Int32)) = (((x &&& 127).toUInt32 >>> ((5 : Int32) &&& 31).toUInt32).toInt32 &&& (1 : Int32)) := by
    apply Int32.toBitVec_inj.mp
    apply BitVec.eq_of_toNat_eq
    show ((x.toBitVec >>> (5 : Nat)) &&& BitVec.ofNat 32 1).toNat = (((x &&& 127).toBitVec >>> (5 : Nat)) &&& BitVec.ofNat 32 1).toNat
    have h := own_m127 x
    rw [BitVec.toNat_and, BitVec.toNat_and, BitVec.toNat_ushiftRight, BitVec.toNat_ushiftRight, h]
    show (x.toBitVec.toNat >>> 5) &&& 1 = ((x.toBitVec.toNat % 128) >>> 5) &&& 1
    rw [Nat.and_one_is_mod, Nat.and_one_is_mod, Nat.shiftRight_eq_div_pow, Nat.shiftRight_eq_div_pow]
    omega
  unfold own_bit
  rw [e]
theorem own_bit_6 (x : Int32) : own_bit x (6 : Int32) = own_bit (x &&& 127) (6 : Int32) := by
  have e : ((x.toUInt32 >>> ((6 : Int32) &&& 31).toUInt32).toInt32 &&& (1 : Int32)) = (((x &&& 127).toUInt32 >>> ((6 : Int32) &&& 31).toUInt32).toInt32 &&& (1 : Int32)) := by
    apply Int32.toBitVec_inj.mp
    apply BitVec.eq_of_toNat_eq
    show ((x.toBitVec >>> (6 : Nat)) &&& BitVec.ofNat 32 1).toNat = (((x &&& 127).toBitVec >>> (6 : Nat)) &&& BitVec.ofNat 32 1).toNat
    have h := own_m127 x
    rw [BitVec.toNat_and, BitVec.toNat_and, BitVec.toNat_ushiftRight, BitVec.toNat_ushiftRight, h]
    show (x.toBitVec.toNat >>> 6) &&& 1 = ((x.toBitVec.toNat % 128) >>> 6) &&& 1
    rw [Nat.and_one_is_mod, Nat.and_one_is_mod, Nat.shiftRight_eq_div_pow, Nat.shiftRight_eq_div_pow]
    omega
  unfold own_bit
  rw [e]
theorem own_fin1 : ∀ k : Fin 128, (own_any1 (nar .boolean (own_bit (Int32.ofNat k.1) (0 : Int32)))) = (if ((Int32.ofNat k.1) &&& (((1 : Int32) <<< ((1 : Int32) &&& 31)) - (1 : Int32))) = (0 : Int32) then (0 : Int32) else (1 : Int32)) := by decide +kernel
theorem own_all1 (x : Int32) : (own_any1 (nar .boolean (own_bit x (0 : Int32)))) = (if (x &&& (((1 : Int32) <<< ((1 : Int32) &&& 31)) - (1 : Int32))) = (0 : Int32) then (0 : Int32) else (1 : Int32)) := by
  rw [own_bit_0 x]
  have m : x &&& (((1 : Int32) <<< ((1 : Int32) &&& 31)) - (1 : Int32)) = (x &&& 127) &&& (((1 : Int32) <<< ((1 : Int32) &&& 31)) - (1 : Int32)) := by
    rw [Int32.and_assoc]
    exact congrArg (fun z => x &&& z) (by decide)
  rw [m]
  have e := own_low (x &&& 127) (x.toBitVec.toNat % 128) (by omega) (own_m127 x)
  rw [e]
  exact own_fin1 ⟨x.toBitVec.toNat % 128, by omega⟩
theorem own_fin2 : ∀ k : Fin 128, (own_any2 (nar .boolean (own_bit (Int32.ofNat k.1) (0 : Int32))) (nar .boolean (own_bit (Int32.ofNat k.1) (1 : Int32)))) = (if ((Int32.ofNat k.1) &&& (((1 : Int32) <<< ((2 : Int32) &&& 31)) - (1 : Int32))) = (0 : Int32) then (0 : Int32) else (1 : Int32)) := by decide +kernel
theorem own_all2 (x : Int32) : (own_any2 (nar .boolean (own_bit x (0 : Int32))) (nar .boolean (own_bit x (1 : Int32)))) = (if (x &&& (((1 : Int32) <<< ((2 : Int32) &&& 31)) - (1 : Int32))) = (0 : Int32) then (0 : Int32) else (1 : Int32)) := by
  rw [own_bit_0 x, own_bit_1 x]
  have m : x &&& (((1 : Int32) <<< ((2 : Int32) &&& 31)) - (1 : Int32)) = (x &&& 127) &&& (((1 : Int32) <<< ((2 : Int32) &&& 31)) - (1 : Int32)) := by
    rw [Int32.and_assoc]
    exact congrArg (fun z => x &&& z) (by decide)
  rw [m]
  have e := own_low (x &&& 127) (x.toBitVec.toNat % 128) (by omega) (own_m127 x)
  rw [e]
  exact own_fin2 ⟨x.toBitVec.toNat % 128, by omega⟩
theorem own_fin3 : ∀ k : Fin 128, (own_any3 (nar .boolean (own_bit (Int32.ofNat k.1) (0 : Int32))) (nar .boolean (own_bit (Int32.ofNat k.1) (1 : Int32))) (nar .boolean (own_bit (Int32.ofNat k.1) (2 : Int32)))) = (if ((Int32.ofNat k.1) &&& (((1 : Int32) <<< ((3 : Int32) &&& 31)) - (1 : Int32))) = (0 : Int32) then (0 : Int32) else (1 : Int32)) := by decide +kernel
theorem own_all3 (x : Int32) : (own_any3 (nar .boolean (own_bit x (0 : Int32))) (nar .boolean (own_bit x (1 : Int32))) (nar .boolean (own_bit x (2 : Int32)))) = (if (x &&& (((1 : Int32) <<< ((3 : Int32) &&& 31)) - (1 : Int32))) = (0 : Int32) then (0 : Int32) else (1 : Int32)) := by
  rw [own_bit_0 x, own_bit_1 x, own_bit_2 x]
  have m : x &&& (((1 : Int32) <<< ((3 : Int32) &&& 31)) - (1 : Int32)) = (x &&& 127) &&& (((1 : Int32) <<< ((3 : Int32) &&& 31)) - (1 : Int32)) := by
    rw [Int32.and_assoc]
    exact congrArg (fun z => x &&& z) (by decide)
  rw [m]
  have e := own_low (x &&& 127) (x.toBitVec.toNat % 128) (by omega) (own_m127 x)
  rw [e]
  exact own_fin3 ⟨x.toBitVec.toNat % 128, by omega⟩
theorem own_fin4 : ∀ k : Fin 128, (own_any4 (nar .boolean (own_bit (Int32.ofNat k.1) (0 : Int32))) (nar .boolean (own_bit (Int32.ofNat k.1) (1 : Int32))) (nar .boolean (own_bit (Int32.ofNat k.1) (2 : Int32))) (nar .boolean (own_bit (Int32.ofNat k.1) (3 : Int32)))) = (if ((Int32.ofNat k.1) &&& (((1 : Int32) <<< ((4 : Int32) &&& 31)) - (1 : Int32))) = (0 : Int32) then (0 : Int32) else (1 : Int32)) := by decide +kernel
theorem own_all4 (x : Int32) : (own_any4 (nar .boolean (own_bit x (0 : Int32))) (nar .boolean (own_bit x (1 : Int32))) (nar .boolean (own_bit x (2 : Int32))) (nar .boolean (own_bit x (3 : Int32)))) = (if (x &&& (((1 : Int32) <<< ((4 : Int32) &&& 31)) - (1 : Int32))) = (0 : Int32) then (0 : Int32) else (1 : Int32)) := by
  rw [own_bit_0 x, own_bit_1 x, own_bit_2 x, own_bit_3 x]
  have m : x &&& (((1 : Int32) <<< ((4 : Int32) &&& 31)) - (1 : Int32)) = (x &&& 127) &&& (((1 : Int32) <<< ((4 : Int32) &&& 31)) - (1 : Int32)) := by
    rw [Int32.and_assoc]
    exact congrArg (fun z => x &&& z) (by decide)
  rw [m]
  have e := own_low (x &&& 127) (x.toBitVec.toNat % 128) (by omega) (own_m127 x)
  rw [e]
  exact own_fin4 ⟨x.toBitVec.toNat % 128, by omega⟩
theorem own_fin5 : ∀ k : Fin 128, (own_any5 (nar .boolean (own_bit (Int32.ofNat k.1) (0 : Int32))) (nar .boolean (own_bit (Int32.ofNat k.1) (1 : Int32))) (nar .boolean (own_bit (Int32.ofNat k.1) (2 : Int32))) (nar .boolean (own_bit (Int32.ofNat k.1) (3 : Int32))) (nar .boolean (own_bit (Int32.ofNat k.1) (4 : Int32)))) = (if ((Int32.ofNat k.1) &&& (((1 : Int32) <<< ((5 : Int32) &&& 31)) - (1 : Int32))) = (0 : Int32) then (0 : Int32) else (1 : Int32)) := by decide +kernel
theorem own_all5 (x : Int32) : (own_any5 (nar .boolean (own_bit x (0 : Int32))) (nar .boolean (own_bit x (1 : Int32))) (nar .boolean (own_bit x (2 : Int32))) (nar .boolean (own_bit x (3 : Int32))) (nar .boolean (own_bit x (4 : Int32)))) = (if (x &&& (((1 : Int32) <<< ((5 : Int32) &&& 31)) - (1 : Int32))) = (0 : Int32) then (0 : Int32) else (1 : Int32)) := by
  rw [own_bit_0 x, own_bit_1 x, own_bit_2 x, own_bit_3 x, own_bit_4 x]
  have m : x &&& (((1 : Int32) <<< ((5 : Int32) &&& 31)) - (1 : Int32)) = (x &&& 127) &&& (((1 : Int32) <<< ((5 : Int32) &&& 31)) - (1 : Int32)) := by
    rw [Int32.and_assoc]
    exact congrArg (fun z => x &&& z) (by decide)
  rw [m]
  have e := own_low (x &&& 127) (x.toBitVec.toNat % 128) (by omega) (own_m127 x)
  rw [e]
  exact own_fin5 ⟨x.toBitVec.toNat % 128, by omega⟩
theorem own_fin6 : ∀ k : Fin 128, (own_any6 (nar .boolean (own_bit (Int32.ofNat k.1) (0 : Int32))) (nar .boolean (own_bit (Int32.ofNat k.1) (1 : Int32))) (nar .boolean (own_bit (Int32.ofNat k.1) (2 : Int32))) (nar .boolean (own_bit (Int32.ofNat k.1) (3 : Int32))) (nar .boolean (own_bit (Int32.ofNat k.1) (4 : Int32))) (nar .boolean (own_bit (Int32.ofNat k.1) (5 : Int32)))) = (if ((Int32.ofNat k.1) &&& (((1 : Int32) <<< ((6 : Int32) &&& 31)) - (1 : Int32))) = (0 : Int32) then (0 : Int32) else (1 : Int32)) := by decide +kernel
theorem own_all6 (x : Int32) : (own_any6 (nar .boolean (own_bit x (0 : Int32))) (nar .boolean (own_bit x (1 : Int32))) (nar .boolean (own_bit x (2 : Int32))) (nar .boolean (own_bit x (3 : Int32))) (nar .boolean (own_bit x (4 : Int32))) (nar .boolean (own_bit x (5 : Int32)))) = (if (x &&& (((1 : Int32) <<< ((6 : Int32) &&& 31)) - (1 : Int32))) = (0 : Int32) then (0 : Int32) else (1 : Int32)) := by
  rw [own_bit_0 x, own_bit_1 x, own_bit_2 x, own_bit_3 x, own_bit_4 x, own_bit_5 x]
  have m : x &&& (((1 : Int32) <<< ((6 : Int32) &&& 31)) - (1 : Int32)) = (x &&& 127) &&& (((1 : Int32) <<< ((6 : Int32) &&& 31)) - (1 : Int32)) := by
    rw [Int32.and_assoc]
    exact congrArg (fun z => x &&& z) (by decide)
  rw [m]
  have e := own_low (x &&& 127) (x.toBitVec.toNat % 128) (by omega) (own_m127 x)
  rw [e]
  exact own_fin6 ⟨x.toBitVec.toNat % 128, by omega⟩
theorem own_fin7 : ∀ k : Fin 128, (own_any7 (nar .boolean (own_bit (Int32.ofNat k.1) (0 : Int32))) (nar .boolean (own_bit (Int32.ofNat k.1) (1 : Int32))) (nar .boolean (own_bit (Int32.ofNat k.1) (2 : Int32))) (nar .boolean (own_bit (Int32.ofNat k.1) (3 : Int32))) (nar .boolean (own_bit (Int32.ofNat k.1) (4 : Int32))) (nar .boolean (own_bit (Int32.ofNat k.1) (5 : Int32))) (nar .boolean (own_bit (Int32.ofNat k.1) (6 : Int32)))) = (if ((Int32.ofNat k.1) &&& (((1 : Int32) <<< ((7 : Int32) &&& 31)) - (1 : Int32))) = (0 : Int32) then (0 : Int32) else (1 : Int32)) := by decide +kernel
theorem own_all7 (x : Int32) : (own_any7 (nar .boolean (own_bit x (0 : Int32))) (nar .boolean (own_bit x (1 : Int32))) (nar .boolean (own_bit x (2 : Int32))) (nar .boolean (own_bit x (3 : Int32))) (nar .boolean (own_bit x (4 : Int32))) (nar .boolean (own_bit x (5 : Int32))) (nar .boolean (own_bit x (6 : Int32)))) = (if (x &&& (((1 : Int32) <<< ((7 : Int32) &&& 31)) - (1 : Int32))) = (0 : Int32) then (0 : Int32) else (1 : Int32)) := by
  rw [own_bit_0 x, own_bit_1 x, own_bit_2 x, own_bit_3 x, own_bit_4 x, own_bit_5 x, own_bit_6 x]
  have m : x &&& (((1 : Int32) <<< ((7 : Int32) &&& 31)) - (1 : Int32)) = (x &&& 127) &&& (((1 : Int32) <<< ((7 : Int32) &&& 31)) - (1 : Int32)) := by
    rw [Int32.and_assoc]
    exact congrArg (fun z => x &&& z) (by decide)
  rw [m]
  have e := own_low (x &&& 127) (x.toBitVec.toNat % 128) (by omega) (own_m127 x)
  rw [e]
  exact own_fin7 ⟨x.toBitVec.toNat % 128, by omega⟩
theorem own_zero (x : Int32) : (if (x &&& (((1 : Int32) <<< ((0 : Int32) &&& 31)) - (1 : Int32))) = (0 : Int32) then (0 : Int32) else (1 : Int32)) = (0 : Int32) := by
  have m : x &&& (((1 : Int32) <<< ((0 : Int32) &&& 31)) - (1 : Int32)) = 0 := by
    have : (((1 : Int32) <<< ((0 : Int32) &&& 31)) - (1 : Int32)) = 0 := by decide
    rw [this]; exact Int32.and_zero
  rw [if_pos m]
theorem pn0 : plainName "com/example/braided_tour/braidedtour/choice/LogitAnyAvailablePinLaw" = true := by first | (simp [plainName, overriddenIn]; done) | decide +kernel
theorem pd0_0 : parseMethodDescriptor "([Z)Z" = some ⟨[(.array .boolean)], some .boolean⟩ := by decide +kernel
theorem pd0_1 : parseMethodDescriptor "(II)Z" = some ⟨[.int, .int], some .boolean⟩ := by decide +kernel
theorem ef0 (m : MethodId) (p1 : Int32) (p2 : Int32) : entryFrame m #[(.int p1), (.int p2)] maxLocals = mkF m 0 #[.val (.int p1), .val (.int p2), .unset, .unset, .unset, .unset] [] := by first | (simp [entryFrame, mkF, argsToLocals, Value.category, maxLocals]; done) | rfl
def Q0 (Z : State) (p1 : Int32) (p2 : Int32) (h0 : Heap) (n0 : Nat) (v : Option Value) (h : Heap) (L : List Loc) : Prop := v = some (.int (1 : Int32)) ∧ Fr n0 L
set_option maxRecDepth 65536 in
set_option maxHeartbeats 40000000 in
theorem rm0 (l : Launch) (Z : State) (a0 : Array Value) (hw : ∀ d ∈ tables_1, d.before a0 Z = true) (ws : List Jvm.Cond) (p1 : Int32) (p2 : Int32) (h0 : Heap) (n0 : Nat) (Z0 : n0 ≤ h0.size) :
    MetFree l x (head1 (Jvm.Cond.code x code maxLocals ret :: ws) room_1) (fun a U => a = #[(.int p1), (.int p2)] ∧ Z.Warmed39 U.vm ∧ U.heap = h0) (fun _ _ _ _ _ => True) (fun _ U o U' => ∃ v L, o = .returned v ∧ Q0 Z p1 p2 h0 n0 v U'.heap L ∧ FrameEnd U o U' L room_1.cells room_1.slots) := by
  refine MetFree.of_bodySF (plainFor_of_name pn0) hisR ?_
  intro p e s m args below meth c s₁ Bd hml0 hP hK
  obtain ⟨rfl, hZ, hh⟩ := hP
  have hx := Bd.exec
  have hby := Bd.bytes
  have hml : c.maxLocals = 6 := hml0
  have hown : s.vm.findClass "com/example/braided_tour/braidedtour/choice/LogitAnyAvailablePinLaw" = some m.cls := findClass_of_methodNamed Bd.named
  have hnm := (name_of_methodNamed Bd.named Bd.method).1
  have X0 : Stand p l e room_1 s m #[(.int p1), (.int p2)] below meth c s₁ [] 0 0 := Stand.of_body Bd
  have e0 : s₁.heap = h0 := by rw [← hh, Bd.state]; rfl
  have N0 := Fr.nil n0
  have pre0 : ∀ t, Steps p.tables e below (s₁.setTop (mkF m 0 #[.val (.int p1), .val (.int p2), .unset, .unset, .unset, .unset] [])) t → Steps p.tables e below (s₁.setTop (entryFrame m #[(.int p1), (.int p2)] maxLocals)) t := fun t k => castTop (ef0 m p1 p2) k
  have c1 : ∀ t, Steps p.tables e below (s₁.setTop (mkF m 5 #[.val (.int p1), .val (.int p2), .val (.int (p1 &&& (7 : Int32))), .unset, .unset, .unset] [])) t → Steps p.tables e below (s₁.setTop (entryFrame m #[(.int p1), (.int p2)] maxLocals)) t := fun t kt => by
    refine pre0 _ ?_
    show Steps p.tables e below (s₁.setTop (mkF m 0 #[.val (.int p1), .val (.int p2), .unset, .unset, .unset, .unset] [])) _
    refine XS.iloadN X0.here hx rfl (hb hby at_0) rfl ?_
    show Steps p.tables e below (s₁.setTop (mkF m 1 #[.val (.int p1), .val (.int p2), .unset, .unset, .unset, .unset] [(.int p1)])) _
    refine XS.bipush X0.here hx rfl (hb hby at_1) ?_
    show Steps p.tables e below (s₁.setTop (mkF m 3 #[.val (.int p1), .val (.int p2), .unset, .unset, .unset, .unset] [(.int (7 : Int32)), (.int p1)])) _
    refine XS.iand X0.here hx rfl (hb hby at_3) rfl ?_
    show Steps p.tables e below (s₁.setTop (mkF m 4 #[.val (.int p1), .val (.int p2), .unset, .unset, .unset, .unset] [(.int (p1 &&& (7 : Int32)))])) _
    refine XS.istoreN X0.here hx rfl (hb hby at_4) rfl (l' := #[.val (.int p1), .val (.int p2), .val (.int (p1 &&& (7 : Int32))), .unset, .unset, .unset]) rfl ?_
    exact kt
  rcases own_n p1 with hk | hk | hk | hk | hk | hk | hk | hk
  · rw [hk] at c1
    obtain ⟨T2, h2, k2, X2, e2, E2, A2, st2⟩ := newP X0 hx hZ (hw _ (List.mem_of_getElem? (i := 0) rfl)) e0 (g := (mkF m 6 #[.val (.int p1), .val (.int p2), .val (.int (0 : Int32)), .unset, .unset, .unset] [(.int (0 : Int32))])) rfl (hb hby at_6) rfl (by decide) (cap := 0) (by decide) (by decide) (by decide) (by decide)
    obtain ⟨b2, g2⟩ : ∃ z, z = h0.size := ⟨_, rfl⟩
    rw [← g2] at A2 st2
    have g_b2 : n0 ≤ b2 := Nat.le_trans Z0 (Nat.le_of_eq g2.symm)
    have Z2 : n0 ≤ h2.size := Nat.le_trans Z0 E2.1
    have V2 : Arv Z h2 b2 k2 .boolean (0 : Int32) [] (.int (0 : Int32)) := Arv.new A2 (by decide)
    obtain ⟨j111_S0k0, ej111_S0k0⟩ : ∃ z : Int32, z = (if (p2 &&& (((1 : Int32) <<< ((0 : Int32) &&& 31)) - (1 : Int32))) = (0 : Int32) then (0 : Int32) else (1 : Int32)) := ⟨_, rfl⟩
    have sg111k0 : ∀ t, Steps p.tables e below (T2.setTop (mkF m 121 #[.val (.int p1), .val (.int p2), .val (.int (0 : Int32)), .val (.ref b2), .val (.int (p2 &&& (((1 : Int32) <<< ((0 : Int32) &&& 31)) - (1 : Int32)))), .unset] [(.int j111_S0k0)])) t → Steps p.tables e below (T2.setTop (mkF m 111 #[.val (.int p1), .val (.int p2), .val (.int (0 : Int32)), .val (.ref b2), .val (.int (p2 &&& (((1 : Int32) <<< ((0 : Int32) &&& 31)) - (1 : Int32)))), .unset] [])) t := fun t kt => by
      show Steps p.tables e below (T2.setTop (mkF m 111 #[.val (.int p1), .val (.int p2), .val (.int (0 : Int32)), .val (.ref b2), .val (.int (p2 &&& (((1 : Int32) <<< ((0 : Int32) &&& 31)) - (1 : Int32)))), .unset] [])) _
      refine XS.iload X2.here hx rfl (hb hby at_111) rfl ?_
      by_cases hc113 : (p2 &&& (((1 : Int32) <<< ((0 : Int32) &&& 31)) - (1 : Int32))) = (0 : Int32)
      · have qj111_S0k0 : j111_S0k0 = (0 : Int32) := by rw [ej111_S0k0, if_pos hc113]
        rw [qj111_S0k0] at kt
        show Steps p.tables e below (T2.setTop (mkF m 113 #[.val (.int p1), .val (.int p2), .val (.int (0 : Int32)), .val (.ref b2), .val (.int (p2 &&& (((1 : Int32) <<< ((0 : Int32) &&& 31)) - (1 : Int32)))), .unset] [(.int (p2 &&& (((1 : Int32) <<< ((0 : Int32) &&& 31)) - (1 : Int32))))])) _
        refine XS.ifYes X2.here hx rfl (pc0 := 113) (pc' := 120) rfl (hb hby at_113) rfl ((if0 _ _).trans (teq hc113).1) (by decide) (by decide) ?_
        show Steps p.tables e below (T2.setTop (mkF m 120 #[.val (.int p1), .val (.int p2), .val (.int (0 : Int32)), .val (.ref b2), .val (.int (p2 &&& (((1 : Int32) <<< ((0 : Int32) &&& 31)) - (1 : Int32)))), .unset] [])) _
        refine XS.iconst X2.here hx rfl (hb hby at_120) ?_
        exact kt
      · have qj111_S0k0 : j111_S0k0 = (1 : Int32) := by rw [ej111_S0k0, if_neg hc113]
        rw [qj111_S0k0] at kt
        show Steps p.tables e below (T2.setTop (mkF m 113 #[.val (.int p1), .val (.int p2), .val (.int (0 : Int32)), .val (.ref b2), .val (.int (p2 &&& (((1 : Int32) <<< ((0 : Int32) &&& 31)) - (1 : Int32)))), .unset] [(.int (p2 &&& (((1 : Int32) <<< ((0 : Int32) &&& 31)) - (1 : Int32))))])) _
        refine XS.ifNo X2.here hx rfl (hb hby at_113) rfl ((if0 _ _).trans (feq hc113).1) ?_
        show Steps p.tables e below (T2.setTop (mkF m 116 #[.val (.int p1), .val (.int p2), .val (.int (0 : Int32)), .val (.ref b2), .val (.int (p2 &&& (((1 : Int32) <<< ((0 : Int32) &&& 31)) - (1 : Int32)))), .unset] [])) _
        refine XS.iconst X2.here hx rfl (hb hby at_116) ?_
        show Steps p.tables e below (T2.setTop (mkF m 117 #[.val (.int p1), .val (.int p2), .val (.int (0 : Int32)), .val (.ref b2), .val (.int (p2 &&& (((1 : Int32) <<< ((0 : Int32) &&& 31)) - (1 : Int32)))), .unset] [(.int (1 : Int32))])) _
        refine XS.goto X2.here hx rfl (pc0 := 117) (pc' := 121) rfl (hb hby at_117) (by decide) (by decide) ?_
        exact kt
    obtain ⟨_, _, ⟨T3, L3, k3, n3⟩, -, X3, ⟨Lc3, hQ3, l3, y3, z3⟩, st3⟩ := Jvm.LawKit.callS X2 hx (y := (⟨"com/example/braided_tour/braidedtour/choice/Logit", "anyAvailable", "([Z)Z"⟩ : MethodName)) hown (mvT hZ (hw _ (List.mem_of_getElem? (i := 1) rfl))) (mvT hZ (hw _ (List.mem_of_getElem? (i := 2) rfl))) (mvT hZ (hw _ (List.mem_of_getElem? (i := 3) rfl))) (mvT hZ (hw _ (List.mem_of_getElem? (i := 4) rfl))) (by decide) (backOf (W := 0) (rm1n0 l Z a0 hw [] b2 k2 h2 n0 Z2 V2) hZ (hw _ (List.mem_of_getElem? (i := 4) rfl)) (hw _ (List.mem_of_getElem? (i := 3) rfl)) (by decide) (by decide)) (g := (mkF m 124 #[.val (.int p1), .val (.int p2), .val (.int (0 : Int32)), .val (.ref b2), .val (.int (p2 &&& (((1 : Int32) <<< ((0 : Int32) &&& 31)) - (1 : Int32)))), .val (.int j111_S0k0)] [(.ref b2)])) rfl (by rw [hml]; rfl) (argsL := [(.ref b2)]) (rest := []) (lenOf pd0_0 rfl) rfl (by show 2 * 0 + _ ≤ _; exact Nat.le_of_eq rfl) (hb hby at_124) (fun _ _ => ⟨rfl, e2, (by decide : 1 + 0 ≤ _), (by decide : 0 + 0 ≤ _)⟩)
    dsimp only [Pt.U, Pt.locs, Pt.cells, Pt.slots] at X3 l3 y3 z3 st3 hQ3
    subst l3 y3 z3
    obtain ⟨rfl, N3q, e3⟩ := hQ3
    have N3 := Fr.app N0 N3q
    obtain ⟨fs, hr, hrun, hended, hW, hsame⟩ := X3.leave (v := some (.int (1 : Int32))) (fun h => by rw [Bd.returns] at h; cases h)
    refine ⟨_, _, c1 _ ?_, hrun, hended, _, _, rfl, ?_, ⟨_, rfl⟩, hW, hsame.mono (by decide) (by decide)⟩
    · show Steps p.tables e below (s₁.setTop (mkF m 5 #[.val (.int p1), .val (.int p2), .val (.int (0 : Int32)), .unset, .unset, .unset] [])) _
      refine XS.iloadN X0.here hx rfl (hb hby at_5) rfl ?_
      show Steps p.tables e below (s₁.setTop (mkF m 6 #[.val (.int p1), .val (.int p2), .val (.int (0 : Int32)), .unset, .unset, .unset] [(.int (0 : Int32))])) _
      refine st2 _ ?_
      show Steps p.tables e below (T2.setTop (mkF m 8 #[.val (.int p1), .val (.int p2), .val (.int (0 : Int32)), .unset, .unset, .unset] [(.ref b2)])) _
      refine XS.astoreN X2.here hx rfl (hb hby at_8) rfl rfl (l' := #[.val (.int p1), .val (.int p2), .val (.int (0 : Int32)), .val (.ref b2), .unset, .unset]) rfl ?_
      show Steps p.tables e below (T2.setTop (mkF m 9 #[.val (.int p1), .val (.int p2), .val (.int (0 : Int32)), .val (.ref b2), .unset, .unset] [])) _
      refine XS.iloadN X2.here hx rfl (hb hby at_9) rfl ?_
      show Steps p.tables e below (T2.setTop (mkF m 10 #[.val (.int p1), .val (.int p2), .val (.int (0 : Int32)), .val (.ref b2), .unset, .unset] [(.int (0 : Int32))])) _
      refine XS.ifYes X2.here hx rfl (pc0 := 10) (pc' := 21) rfl (hb hby at_10) rfl ((if0 _ _).trans (flt (by decide)).2.2.2) (by decide) (by decide) ?_
      show Steps p.tables e below (T2.setTop (mkF m 21 #[.val (.int p1), .val (.int p2), .val (.int (0 : Int32)), .val (.ref b2), .unset, .unset] [])) _
      refine XS.iloadN X2.here hx rfl (hb hby at_21) rfl ?_
      show Steps p.tables e below (T2.setTop (mkF m 22 #[.val (.int p1), .val (.int p2), .val (.int (0 : Int32)), .val (.ref b2), .unset, .unset] [(.int (0 : Int32))])) _
      refine XS.iconst X2.here hx rfl (hb hby at_22) ?_
      show Steps p.tables e below (T2.setTop (mkF m 23 #[.val (.int p1), .val (.int p2), .val (.int (0 : Int32)), .val (.ref b2), .unset, .unset] [(.int (1 : Int32)), (.int (0 : Int32))])) _
      refine XS.icmpYes X2.here hx rfl (pc0 := 23) (pc' := 34) rfl (hb hby at_23) rfl (flt (by decide)).2.2.2 (by decide) (by decide) ?_
      show Steps p.tables e below (T2.setTop (mkF m 34 #[.val (.int p1), .val (.int p2), .val (.int (0 : Int32)), .val (.ref b2), .unset, .unset] [])) _
      refine XS.iloadN X2.here hx rfl (hb hby at_34) rfl ?_
      show Steps p.tables e below (T2.setTop (mkF m 35 #[.val (.int p1), .val (.int p2), .val (.int (0 : Int32)), .val (.ref b2), .unset, .unset] [(.int (0 : Int32))])) _
      refine XS.iconst X2.here hx rfl (hb hby at_35) ?_
      show Steps p.tables e below (T2.setTop (mkF m 36 #[.val (.int p1), .val (.int p2), .val (.int (0 : Int32)), .val (.ref b2), .unset, .unset] [(.int (2 : Int32)), (.int (0 : Int32))])) _
      refine XS.icmpYes X2.here hx rfl (pc0 := 36) (pc' := 47) rfl (hb hby at_36) rfl (flt (by decide)).2.2.2 (by decide) (by decide) ?_
      show Steps p.tables e below (T2.setTop (mkF m 47 #[.val (.int p1), .val (.int p2), .val (.int (0 : Int32)), .val (.ref b2), .unset, .unset] [])) _
      refine XS.iloadN X2.here hx rfl (hb hby at_47) rfl ?_
      show Steps p.tables e below (T2.setTop (mkF m 48 #[.val (.int p1), .val (.int p2), .val (.int (0 : Int32)), .val (.ref b2), .unset, .unset] [(.int (0 : Int32))])) _
      refine XS.iconst X2.here hx rfl (hb hby at_48) ?_
      show Steps p.tables e below (T2.setTop (mkF m 49 #[.val (.int p1), .val (.int p2), .val (.int (0 : Int32)), .val (.ref b2), .unset, .unset] [(.int (3 : Int32)), (.int (0 : Int32))])) _
      refine XS.icmpYes X2.here hx rfl (pc0 := 49) (pc' := 60) rfl (hb hby at_49) rfl (flt (by decide)).2.2.2 (by decide) (by decide) ?_
      show Steps p.tables e below (T2.setTop (mkF m 60 #[.val (.int p1), .val (.int p2), .val (.int (0 : Int32)), .val (.ref b2), .unset, .unset] [])) _
      refine XS.iloadN X2.here hx rfl (hb hby at_60) rfl ?_
      show Steps p.tables e below (T2.setTop (mkF m 61 #[.val (.int p1), .val (.int p2), .val (.int (0 : Int32)), .val (.ref b2), .unset, .unset] [(.int (0 : Int32))])) _
      refine XS.iconst X2.here hx rfl (hb hby at_61) ?_
      show Steps p.tables e below (T2.setTop (mkF m 62 #[.val (.int p1), .val (.int p2), .val (.int (0 : Int32)), .val (.ref b2), .unset, .unset] [(.int (4 : Int32)), (.int (0 : Int32))])) _
      refine XS.icmpYes X2.here hx rfl (pc0 := 62) (pc' := 73) rfl (hb hby at_62) rfl (flt (by decide)).2.2.2 (by decide) (by decide) ?_
      show Steps p.tables e below (T2.setTop (mkF m 73 #[.val (.int p1), .val (.int p2), .val (.int (0 : Int32)), .val (.ref b2), .unset, .unset] [])) _
      refine XS.iloadN X2.here hx rfl (hb hby at_73) rfl ?_
      show Steps p.tables e below (T2.setTop (mkF m 74 #[.val (.int p1), .val (.int p2), .val (.int (0 : Int32)), .val (.ref b2), .unset, .unset] [(.int (0 : Int32))])) _
      refine XS.iconst X2.here hx rfl (hb hby at_74) ?_
      show Steps p.tables e below (T2.setTop (mkF m 75 #[.val (.int p1), .val (.int p2), .val (.int (0 : Int32)), .val (.ref b2), .unset, .unset] [(.int (5 : Int32)), (.int (0 : Int32))])) _
      refine XS.icmpYes X2.here hx rfl (pc0 := 75) (pc' := 86) rfl (hb hby at_75) rfl (flt (by decide)).2.2.2 (by decide) (by decide) ?_
      show Steps p.tables e below (T2.setTop (mkF m 86 #[.val (.int p1), .val (.int p2), .val (.int (0 : Int32)), .val (.ref b2), .unset, .unset] [])) _
      refine XS.iloadN X2.here hx rfl (hb hby at_86) rfl ?_
      show Steps p.tables e below (T2.setTop (mkF m 87 #[.val (.int p1), .val (.int p2), .val (.int (0 : Int32)), .val (.ref b2), .unset, .unset] [(.int (0 : Int32))])) _
      refine XS.bipush X2.here hx rfl (hb hby at_87) ?_
      show Steps p.tables e below (T2.setTop (mkF m 89 #[.val (.int p1), .val (.int p2), .val (.int (0 : Int32)), .val (.ref b2), .unset, .unset] [(.int (6 : Int32)), (.int (0 : Int32))])) _
      refine XS.icmpYes X2.here hx rfl (pc0 := 89) (pc' := 102) rfl (hb hby at_89) rfl (flt (by decide)).2.2.2 (by decide) (by decide) ?_
      show Steps p.tables e below (T2.setTop (mkF m 102 #[.val (.int p1), .val (.int p2), .val (.int (0 : Int32)), .val (.ref b2), .unset, .unset] [])) _
      refine XS.iloadN X2.here hx rfl (hb hby at_102) rfl ?_
      show Steps p.tables e below (T2.setTop (mkF m 103 #[.val (.int p1), .val (.int p2), .val (.int (0 : Int32)), .val (.ref b2), .unset, .unset] [(.int p2)])) _
      refine XS.iconst X2.here hx rfl (hb hby at_103) ?_
      show Steps p.tables e below (T2.setTop (mkF m 104 #[.val (.int p1), .val (.int p2), .val (.int (0 : Int32)), .val (.ref b2), .unset, .unset] [(.int (1 : Int32)), (.int p2)])) _
      refine XS.iloadN X2.here hx rfl (hb hby at_104) rfl ?_
      show Steps p.tables e below (T2.setTop (mkF m 105 #[.val (.int p1), .val (.int p2), .val (.int (0 : Int32)), .val (.ref b2), .unset, .unset] [(.int (0 : Int32)), (.int (1 : Int32)), (.int p2)])) _
      refine XS.ishl X2.here hx rfl (hb hby at_105) rfl ?_
      show Steps p.tables e below (T2.setTop (mkF m 106 #[.val (.int p1), .val (.int p2), .val (.int (0 : Int32)), .val (.ref b2), .unset, .unset] [(.int ((1 : Int32) <<< ((0 : Int32) &&& 31))), (.int p2)])) _
      refine XS.iconst X2.here hx rfl (hb hby at_106) ?_
      show Steps p.tables e below (T2.setTop (mkF m 107 #[.val (.int p1), .val (.int p2), .val (.int (0 : Int32)), .val (.ref b2), .unset, .unset] [(.int (1 : Int32)), (.int ((1 : Int32) <<< ((0 : Int32) &&& 31))), (.int p2)])) _
      refine XS.isub X2.here hx rfl (hb hby at_107) rfl ?_
      show Steps p.tables e below (T2.setTop (mkF m 108 #[.val (.int p1), .val (.int p2), .val (.int (0 : Int32)), .val (.ref b2), .unset, .unset] [(.int (((1 : Int32) <<< ((0 : Int32) &&& 31)) - (1 : Int32))), (.int p2)])) _
      refine XS.iand X2.here hx rfl (hb hby at_108) rfl ?_
      show Steps p.tables e below (T2.setTop (mkF m 109 #[.val (.int p1), .val (.int p2), .val (.int (0 : Int32)), .val (.ref b2), .unset, .unset] [(.int (p2 &&& (((1 : Int32) <<< ((0 : Int32) &&& 31)) - (1 : Int32))))])) _
      refine XS.istore X2.here hx rfl (hb hby at_109) rfl (l' := #[.val (.int p1), .val (.int p2), .val (.int (0 : Int32)), .val (.ref b2), .val (.int (p2 &&& (((1 : Int32) <<< ((0 : Int32) &&& 31)) - (1 : Int32)))), .unset]) rfl ?_
      show Steps p.tables e below (T2.setTop (mkF m 111 #[.val (.int p1), .val (.int p2), .val (.int (0 : Int32)), .val (.ref b2), .val (.int (p2 &&& (((1 : Int32) <<< ((0 : Int32) &&& 31)) - (1 : Int32)))), .unset] [])) _
      refine sg111k0 _ ?_
      show Steps p.tables e below (T2.setTop (mkF m 121 #[.val (.int p1), .val (.int p2), .val (.int (0 : Int32)), .val (.ref b2), .val (.int (p2 &&& (((1 : Int32) <<< ((0 : Int32) &&& 31)) - (1 : Int32)))), .unset] [(.int j111_S0k0)])) _
      refine XS.istore X2.here hx rfl (hb hby at_121) rfl (l' := #[.val (.int p1), .val (.int p2), .val (.int (0 : Int32)), .val (.ref b2), .val (.int (p2 &&& (((1 : Int32) <<< ((0 : Int32) &&& 31)) - (1 : Int32)))), .val (.int j111_S0k0)]) rfl ?_
      show Steps p.tables e below (T2.setTop (mkF m 123 #[.val (.int p1), .val (.int p2), .val (.int (0 : Int32)), .val (.ref b2), .val (.int (p2 &&& (((1 : Int32) <<< ((0 : Int32) &&& 31)) - (1 : Int32)))), .val (.int j111_S0k0)] [])) _
      refine XS.aloadN X2.here hx rfl (hb hby at_123) rfl rfl ?_
      show Steps p.tables e below (T2.setTop (mkF m 124 #[.val (.int p1), .val (.int p2), .val (.int (0 : Int32)), .val (.ref b2), .val (.int (p2 &&& (((1 : Int32) <<< ((0 : Int32) &&& 31)) - (1 : Int32)))), .val (.int j111_S0k0)] [(.ref b2)])) _
      refine st3 _ ?_
      show Steps p.tables e below (T3.setTop (mkF m 127 #[.val (.int p1), .val (.int p2), .val (.int (0 : Int32)), .val (.ref b2), .val (.int (p2 &&& (((1 : Int32) <<< ((0 : Int32) &&& 31)) - (1 : Int32)))), .val (.int j111_S0k0)] [(.int (0 : Int32))])) _
      refine XS.iload X3.here hx rfl (hb hby at_127) rfl ?_
      show Steps p.tables e below (T3.setTop (mkF m 129 #[.val (.int p1), .val (.int p2), .val (.int (0 : Int32)), .val (.ref b2), .val (.int (p2 &&& (((1 : Int32) <<< ((0 : Int32) &&& 31)) - (1 : Int32)))), .val (.int j111_S0k0)] [(.int j111_S0k0), (.int (0 : Int32))])) _
      refine XS.icmpNo X3.here hx rfl (hb hby at_129) rfl (teq (by rw [ej111_S0k0, own_zero p2])).2 ?_
      show Steps p.tables e below (T3.setTop (mkF m 132 #[.val (.int p1), .val (.int p2), .val (.int (0 : Int32)), .val (.ref b2), .val (.int (p2 &&& (((1 : Int32) <<< ((0 : Int32) &&& 31)) - (1 : Int32)))), .val (.int j111_S0k0)] [])) _
      refine XS.iconst X3.here hx rfl (hb hby at_132) ?_
      show Steps p.tables e below (T3.setTop (mkF m 133 #[.val (.int p1), .val (.int p2), .val (.int (0 : Int32)), .val (.ref b2), .val (.int (p2 &&& (((1 : Int32) <<< ((0 : Int32) &&& 31)) - (1 : Int32)))), .val (.int j111_S0k0)] [(.int (1 : Int32))])) _
      refine XS.goto X3.here hx rfl (pc0 := 133) (pc' := 137) rfl (hb hby at_133) (by decide) (by decide) ?_
      show Steps p.tables e below (T3.setTop (mkF m 137 #[.val (.int p1), .val (.int p2), .val (.int (0 : Int32)), .val (.ref b2), .val (.int (p2 &&& (((1 : Int32) <<< ((0 : Int32) &&& 31)) - (1 : Int32)))), .val (.int j111_S0k0)] [(.int (1 : Int32))])) _
      exact retN X3 hx (t := .boolean) Bd.returns (by simp) (hb hby at_137) hr
    · show Q0 Z p1 p2 h0 n0 _ T3.heap _
      rw [e3]
      exact ⟨rfl, N3⟩
  · rw [hk] at c1
    obtain ⟨T4, h4, k4, X4, e4, E4, A4, st4⟩ := newP X0 hx hZ (hw _ (List.mem_of_getElem? (i := 0) rfl)) e0 (g := (mkF m 6 #[.val (.int p1), .val (.int p2), .val (.int (1 : Int32)), .unset, .unset, .unset] [(.int (1 : Int32))])) rfl (hb hby at_6) rfl (by decide) (cap := 1) (by decide) (by decide) (by decide) (by decide)
    obtain ⟨b4, g4⟩ : ∃ z, z = h0.size := ⟨_, rfl⟩
    rw [← g4] at A4 st4
    have g_b4 : n0 ≤ b4 := Nat.le_trans Z0 (Nat.le_of_eq g4.symm)
    have Z4 : n0 ≤ h4.size := Nat.le_trans Z0 E4.1
    have V4 : Arv Z h4 b4 k4 .boolean (1 : Int32) [(.int (0 : Int32))] (.int (0 : Int32)) := (Arv.new A4 (by decide)).pad (pad_rep [] (.int (0 : Int32)) 1)
    obtain ⟨_, _, ⟨T5, L5, k5, n5⟩, -, X5, ⟨Lc5, hQ5, l5, y5, z5⟩, st5⟩ := Jvm.LawKit.callS X4 hx (y := (⟨"com/example/braided_tour/braidedtour/choice/LogitAnyAvailablePinLaw", "bit", "(II)Z"⟩ : MethodName)) hown (mvT hZ (hw _ (List.mem_of_getElem? (i := 5) rfl))) (mvT hZ (hw _ (List.mem_of_getElem? (i := 6) rfl))) (mvT hZ (hw _ (List.mem_of_getElem? (i := 7) rfl))) (mvT hZ (hw _ (List.mem_of_getElem? (i := 8) rfl))) (by decide) (backOf (W := 2) (rm2 l Z a0 hw [] p2 (0 : Int32) h4 n0 Z4 ) hZ (hw _ (List.mem_of_getElem? (i := 8) rfl)) (hw _ (List.mem_of_getElem? (i := 7) rfl)) (by decide) (by decide)) (g := (mkF m 17 #[.val (.int p1), .val (.int p2), .val (.int (1 : Int32)), .val (.ref b4), .unset, .unset] [(.int (0 : Int32)), (.int p2), (.int (0 : Int32)), (.ref b4)])) rfl (by rw [hml]; rfl) (argsL := [(.int p2), (.int (0 : Int32))]) (rest := [(.int (0 : Int32)), (.ref b4)]) (lenOf pd0_1 rfl) rfl (by show 2 * 0 + _ ≤ _; exact Nat.le_of_eq rfl) (hb hby at_17) (fun _ _ => ⟨rfl, e4, (by decide : 1 + 0 ≤ _), (by decide : 1 + 0 ≤ _)⟩)
    dsimp only [Pt.U, Pt.locs, Pt.cells, Pt.slots] at X5 l5 y5 z5 st5 hQ5
    subst l5 y5 z5
    obtain ⟨rfl, N5q, e5⟩ := hQ5
    have N5 := Fr.app N0 N5q
    have cp20_6 := V4
    obtain ⟨cl20_6, Ar20_6, qa20_6, Sa20_6, Na20_6, Ha20_6, Ga20_6⟩ := cp20_6
    have hin20_6 : ¬ ((0 : Int32) < 0 ∨ cl20_6.slots.size ≤ ((0 : Int32)).toNatClampNeg) := inb_of Sa20_6 ⟨by decide, by decide⟩
    obtain ⟨T7, h7, X7, e7, W7, st7⟩ := stZ X5 hx hZ e5 Ar20_6 (j := (0 : Int32)) hin20_6 (g := (mkF m 20 #[.val (.int p1), .val (.int p2), .val (.int (1 : Int32)), .val (.ref b4), .unset, .unset] [(.int (own_bit p2 (0 : Int32))), (.int (0 : Int32)), (.ref b4)])) rfl rfl (hb hby at_20)
    have V7 : Arv Z h7 b4 k4 .boolean (1 : Int32) [(.int (nar .boolean (own_bit p2 (0 : Int32))))] (.int (0 : Int32)) := Arv.set Ar20_6 qa20_6 Sa20_6 Na20_6 Ha20_6 Ga20_6 (fits_nar_bool _) W7 0 rfl (Nat.le_of_ble_eq_true rfl)
    have N7 := Fr.snoc X7 N5 g_b4
    have Z7 : n0 ≤ h7.size := Nat.le_trans Z4 (Keep.of_wr W7).1
    obtain ⟨j111_S0k1, ej111_S0k1⟩ : ∃ z : Int32, z = (if (p2 &&& (((1 : Int32) <<< ((1 : Int32) &&& 31)) - (1 : Int32))) = (0 : Int32) then (0 : Int32) else (1 : Int32)) := ⟨_, rfl⟩
    have sg111k1 : ∀ t, Steps p.tables e below (T7.setTop (mkF m 121 #[.val (.int p1), .val (.int p2), .val (.int (1 : Int32)), .val (.ref b4), .val (.int (p2 &&& (((1 : Int32) <<< ((1 : Int32) &&& 31)) - (1 : Int32)))), .unset] [(.int j111_S0k1)])) t → Steps p.tables e below (T7.setTop (mkF m 111 #[.val (.int p1), .val (.int p2), .val (.int (1 : Int32)), .val (.ref b4), .val (.int (p2 &&& (((1 : Int32) <<< ((1 : Int32) &&& 31)) - (1 : Int32)))), .unset] [])) t := fun t kt => by
      show Steps p.tables e below (T7.setTop (mkF m 111 #[.val (.int p1), .val (.int p2), .val (.int (1 : Int32)), .val (.ref b4), .val (.int (p2 &&& (((1 : Int32) <<< ((1 : Int32) &&& 31)) - (1 : Int32)))), .unset] [])) _
      refine XS.iload X7.here hx rfl (hb hby at_111) rfl ?_
      by_cases hc113 : (p2 &&& (((1 : Int32) <<< ((1 : Int32) &&& 31)) - (1 : Int32))) = (0 : Int32)
      · have qj111_S0k1 : j111_S0k1 = (0 : Int32) := by rw [ej111_S0k1, if_pos hc113]
        rw [qj111_S0k1] at kt
        show Steps p.tables e below (T7.setTop (mkF m 113 #[.val (.int p1), .val (.int p2), .val (.int (1 : Int32)), .val (.ref b4), .val (.int (p2 &&& (((1 : Int32) <<< ((1 : Int32) &&& 31)) - (1 : Int32)))), .unset] [(.int (p2 &&& (((1 : Int32) <<< ((1 : Int32) &&& 31)) - (1 : Int32))))])) _
        refine XS.ifYes X7.here hx rfl (pc0 := 113) (pc' := 120) rfl (hb hby at_113) rfl ((if0 _ _).trans (teq hc113).1) (by decide) (by decide) ?_
        show Steps p.tables e below (T7.setTop (mkF m 120 #[.val (.int p1), .val (.int p2), .val (.int (1 : Int32)), .val (.ref b4), .val (.int (p2 &&& (((1 : Int32) <<< ((1 : Int32) &&& 31)) - (1 : Int32)))), .unset] [])) _
        refine XS.iconst X7.here hx rfl (hb hby at_120) ?_
        exact kt
      · have qj111_S0k1 : j111_S0k1 = (1 : Int32) := by rw [ej111_S0k1, if_neg hc113]
        rw [qj111_S0k1] at kt
        show Steps p.tables e below (T7.setTop (mkF m 113 #[.val (.int p1), .val (.int p2), .val (.int (1 : Int32)), .val (.ref b4), .val (.int (p2 &&& (((1 : Int32) <<< ((1 : Int32) &&& 31)) - (1 : Int32)))), .unset] [(.int (p2 &&& (((1 : Int32) <<< ((1 : Int32) &&& 31)) - (1 : Int32))))])) _
        refine XS.ifNo X7.here hx rfl (hb hby at_113) rfl ((if0 _ _).trans (feq hc113).1) ?_
        show Steps p.tables e below (T7.setTop (mkF m 116 #[.val (.int p1), .val (.int p2), .val (.int (1 : Int32)), .val (.ref b4), .val (.int (p2 &&& (((1 : Int32) <<< ((1 : Int32) &&& 31)) - (1 : Int32)))), .unset] [])) _
        refine XS.iconst X7.here hx rfl (hb hby at_116) ?_
        show Steps p.tables e below (T7.setTop (mkF m 117 #[.val (.int p1), .val (.int p2), .val (.int (1 : Int32)), .val (.ref b4), .val (.int (p2 &&& (((1 : Int32) <<< ((1 : Int32) &&& 31)) - (1 : Int32)))), .unset] [(.int (1 : Int32))])) _
        refine XS.goto X7.here hx rfl (pc0 := 117) (pc' := 121) rfl (hb hby at_117) (by decide) (by decide) ?_
        exact kt
    obtain ⟨_, _, ⟨T8, L8, k8, n8⟩, -, X8, ⟨Lc8, hQ8, l8, y8, z8⟩, st8⟩ := Jvm.LawKit.callS X7 hx (y := (⟨"com/example/braided_tour/braidedtour/choice/Logit", "anyAvailable", "([Z)Z"⟩ : MethodName)) hown (mvT hZ (hw _ (List.mem_of_getElem? (i := 1) rfl))) (mvT hZ (hw _ (List.mem_of_getElem? (i := 2) rfl))) (mvT hZ (hw _ (List.mem_of_getElem? (i := 3) rfl))) (mvT hZ (hw _ (List.mem_of_getElem? (i := 4) rfl))) (by decide) (backOf (W := 0) (rm1n1 l Z a0 hw [] b4 k4 (nar .boolean (own_bit p2 (0 : Int32))) h7 n0 Z7 V7) hZ (hw _ (List.mem_of_getElem? (i := 4) rfl)) (hw _ (List.mem_of_getElem? (i := 3) rfl)) (by decide) (by decide)) (g := (mkF m 124 #[.val (.int p1), .val (.int p2), .val (.int (1 : Int32)), .val (.ref b4), .val (.int (p2 &&& (((1 : Int32) <<< ((1 : Int32) &&& 31)) - (1 : Int32)))), .val (.int j111_S0k1)] [(.ref b4)])) rfl (by rw [hml]; rfl) (argsL := [(.ref b4)]) (rest := []) (lenOf pd0_0 rfl) rfl (by show 2 * 0 + _ ≤ _; exact Nat.le_of_eq rfl) (hb hby at_124) (fun _ _ => ⟨rfl, e7, (by decide : 1 + 0 ≤ _), (by decide : 1 + 0 ≤ _)⟩)
    dsimp only [Pt.U, Pt.locs, Pt.cells, Pt.slots] at X8 l8 y8 z8 st8 hQ8
    subst l8 y8 z8
    obtain ⟨rfl, N8q, e8⟩ := hQ8
    have N8 := Fr.app N7 N8q
    obtain ⟨fs, hr, hrun, hended, hW, hsame⟩ := X8.leave (v := some (.int (1 : Int32))) (fun h => by rw [Bd.returns] at h; cases h)
    refine ⟨_, _, c1 _ ?_, hrun, hended, _, _, rfl, ?_, ⟨_, rfl⟩, hW, hsame.mono (by decide) (by decide)⟩
    · show Steps p.tables e below (s₁.setTop (mkF m 5 #[.val (.int p1), .val (.int p2), .val (.int (1 : Int32)), .unset, .unset, .unset] [])) _
      refine XS.iloadN X0.here hx rfl (hb hby at_5) rfl ?_
      show Steps p.tables e below (s₁.setTop (mkF m 6 #[.val (.int p1), .val (.int p2), .val (.int (1 : Int32)), .unset, .unset, .unset] [(.int (1 : Int32))])) _
      refine st4 _ ?_
      show Steps p.tables e below (T4.setTop (mkF m 8 #[.val (.int p1), .val (.int p2), .val (.int (1 : Int32)), .unset, .unset, .unset] [(.ref b4)])) _
      refine XS.astoreN X4.here hx rfl (hb hby at_8) rfl rfl (l' := #[.val (.int p1), .val (.int p2), .val (.int (1 : Int32)), .val (.ref b4), .unset, .unset]) rfl ?_
      show Steps p.tables e below (T4.setTop (mkF m 9 #[.val (.int p1), .val (.int p2), .val (.int (1 : Int32)), .val (.ref b4), .unset, .unset] [])) _
      refine XS.iloadN X4.here hx rfl (hb hby at_9) rfl ?_
      show Steps p.tables e below (T4.setTop (mkF m 10 #[.val (.int p1), .val (.int p2), .val (.int (1 : Int32)), .val (.ref b4), .unset, .unset] [(.int (1 : Int32))])) _
      refine XS.ifNo X4.here hx rfl (hb hby at_10) rfl ((if0 _ _).trans (tlt (by decide)).2.2.2) ?_
      show Steps p.tables e below (T4.setTop (mkF m 13 #[.val (.int p1), .val (.int p2), .val (.int (1 : Int32)), .val (.ref b4), .unset, .unset] [])) _
      refine XS.aloadN X4.here hx rfl (hb hby at_13) rfl rfl ?_
      show Steps p.tables e below (T4.setTop (mkF m 14 #[.val (.int p1), .val (.int p2), .val (.int (1 : Int32)), .val (.ref b4), .unset, .unset] [(.ref b4)])) _
      refine XS.iconst X4.here hx rfl (hb hby at_14) ?_
      show Steps p.tables e below (T4.setTop (mkF m 15 #[.val (.int p1), .val (.int p2), .val (.int (1 : Int32)), .val (.ref b4), .unset, .unset] [(.int (0 : Int32)), (.ref b4)])) _
      refine XS.iloadN X4.here hx rfl (hb hby at_15) rfl ?_
      show Steps p.tables e below (T4.setTop (mkF m 16 #[.val (.int p1), .val (.int p2), .val (.int (1 : Int32)), .val (.ref b4), .unset, .unset] [(.int p2), (.int (0 : Int32)), (.ref b4)])) _
      refine XS.iconst X4.here hx rfl (hb hby at_16) ?_
      show Steps p.tables e below (T4.setTop (mkF m 17 #[.val (.int p1), .val (.int p2), .val (.int (1 : Int32)), .val (.ref b4), .unset, .unset] [(.int (0 : Int32)), (.int p2), (.int (0 : Int32)), (.ref b4)])) _
      refine st5 _ ?_
      show Steps p.tables e below (T5.setTop (mkF m 20 #[.val (.int p1), .val (.int p2), .val (.int (1 : Int32)), .val (.ref b4), .unset, .unset] [(.int (own_bit p2 (0 : Int32))), (.int (0 : Int32)), (.ref b4)])) _
      refine st7 _ ?_
      show Steps p.tables e below (T7.setTop (mkF m 21 #[.val (.int p1), .val (.int p2), .val (.int (1 : Int32)), .val (.ref b4), .unset, .unset] [])) _
      refine XS.iloadN X7.here hx rfl (hb hby at_21) rfl ?_
      show Steps p.tables e below (T7.setTop (mkF m 22 #[.val (.int p1), .val (.int p2), .val (.int (1 : Int32)), .val (.ref b4), .unset, .unset] [(.int (1 : Int32))])) _
      refine XS.iconst X7.here hx rfl (hb hby at_22) ?_
      show Steps p.tables e below (T7.setTop (mkF m 23 #[.val (.int p1), .val (.int p2), .val (.int (1 : Int32)), .val (.ref b4), .unset, .unset] [(.int (1 : Int32)), (.int (1 : Int32))])) _
      refine XS.icmpYes X7.here hx rfl (pc0 := 23) (pc' := 34) rfl (hb hby at_23) rfl (flt (by decide)).2.2.2 (by decide) (by decide) ?_
      show Steps p.tables e below (T7.setTop (mkF m 34 #[.val (.int p1), .val (.int p2), .val (.int (1 : Int32)), .val (.ref b4), .unset, .unset] [])) _
      refine XS.iloadN X7.here hx rfl (hb hby at_34) rfl ?_
      show Steps p.tables e below (T7.setTop (mkF m 35 #[.val (.int p1), .val (.int p2), .val (.int (1 : Int32)), .val (.ref b4), .unset, .unset] [(.int (1 : Int32))])) _
      refine XS.iconst X7.here hx rfl (hb hby at_35) ?_
      show Steps p.tables e below (T7.setTop (mkF m 36 #[.val (.int p1), .val (.int p2), .val (.int (1 : Int32)), .val (.ref b4), .unset, .unset] [(.int (2 : Int32)), (.int (1 : Int32))])) _
      refine XS.icmpYes X7.here hx rfl (pc0 := 36) (pc' := 47) rfl (hb hby at_36) rfl (flt (by decide)).2.2.2 (by decide) (by decide) ?_
      show Steps p.tables e below (T7.setTop (mkF m 47 #[.val (.int p1), .val (.int p2), .val (.int (1 : Int32)), .val (.ref b4), .unset, .unset] [])) _
      refine XS.iloadN X7.here hx rfl (hb hby at_47) rfl ?_
      show Steps p.tables e below (T7.setTop (mkF m 48 #[.val (.int p1), .val (.int p2), .val (.int (1 : Int32)), .val (.ref b4), .unset, .unset] [(.int (1 : Int32))])) _
      refine XS.iconst X7.here hx rfl (hb hby at_48) ?_
      show Steps p.tables e below (T7.setTop (mkF m 49 #[.val (.int p1), .val (.int p2), .val (.int (1 : Int32)), .val (.ref b4), .unset, .unset] [(.int (3 : Int32)), (.int (1 : Int32))])) _
      refine XS.icmpYes X7.here hx rfl (pc0 := 49) (pc' := 60) rfl (hb hby at_49) rfl (flt (by decide)).2.2.2 (by decide) (by decide) ?_
      show Steps p.tables e below (T7.setTop (mkF m 60 #[.val (.int p1), .val (.int p2), .val (.int (1 : Int32)), .val (.ref b4), .unset, .unset] [])) _
      refine XS.iloadN X7.here hx rfl (hb hby at_60) rfl ?_
      show Steps p.tables e below (T7.setTop (mkF m 61 #[.val (.int p1), .val (.int p2), .val (.int (1 : Int32)), .val (.ref b4), .unset, .unset] [(.int (1 : Int32))])) _
      refine XS.iconst X7.here hx rfl (hb hby at_61) ?_
      show Steps p.tables e below (T7.setTop (mkF m 62 #[.val (.int p1), .val (.int p2), .val (.int (1 : Int32)), .val (.ref b4), .unset, .unset] [(.int (4 : Int32)), (.int (1 : Int32))])) _
      refine XS.icmpYes X7.here hx rfl (pc0 := 62) (pc' := 73) rfl (hb hby at_62) rfl (flt (by decide)).2.2.2 (by decide) (by decide) ?_
      show Steps p.tables e below (T7.setTop (mkF m 73 #[.val (.int p1), .val (.int p2), .val (.int (1 : Int32)), .val (.ref b4), .unset, .unset] [])) _
      refine XS.iloadN X7.here hx rfl (hb hby at_73) rfl ?_
      show Steps p.tables e below (T7.setTop (mkF m 74 #[.val (.int p1), .val (.int p2), .val (.int (1 : Int32)), .val (.ref b4), .unset, .unset] [(.int (1 : Int32))])) _
      refine XS.iconst X7.here hx rfl (hb hby at_74) ?_
      show Steps p.tables e below (T7.setTop (mkF m 75 #[.val (.int p1), .val (.int p2), .val (.int (1 : Int32)), .val (.ref b4), .unset, .unset] [(.int (5 : Int32)), (.int (1 : Int32))])) _
      refine XS.icmpYes X7.here hx rfl (pc0 := 75) (pc' := 86) rfl (hb hby at_75) rfl (flt (by decide)).2.2.2 (by decide) (by decide) ?_
      show Steps p.tables e below (T7.setTop (mkF m 86 #[.val (.int p1), .val (.int p2), .val (.int (1 : Int32)), .val (.ref b4), .unset, .unset] [])) _
      refine XS.iloadN X7.here hx rfl (hb hby at_86) rfl ?_
      show Steps p.tables e below (T7.setTop (mkF m 87 #[.val (.int p1), .val (.int p2), .val (.int (1 : Int32)), .val (.ref b4), .unset, .unset] [(.int (1 : Int32))])) _
      refine XS.bipush X7.here hx rfl (hb hby at_87) ?_
      show Steps p.tables e below (T7.setTop (mkF m 89 #[.val (.int p1), .val (.int p2), .val (.int (1 : Int32)), .val (.ref b4), .unset, .unset] [(.int (6 : Int32)), (.int (1 : Int32))])) _
      refine XS.icmpYes X7.here hx rfl (pc0 := 89) (pc' := 102) rfl (hb hby at_89) rfl (flt (by decide)).2.2.2 (by decide) (by decide) ?_
      show Steps p.tables e below (T7.setTop (mkF m 102 #[.val (.int p1), .val (.int p2), .val (.int (1 : Int32)), .val (.ref b4), .unset, .unset] [])) _
      refine XS.iloadN X7.here hx rfl (hb hby at_102) rfl ?_
      show Steps p.tables e below (T7.setTop (mkF m 103 #[.val (.int p1), .val (.int p2), .val (.int (1 : Int32)), .val (.ref b4), .unset, .unset] [(.int p2)])) _
      refine XS.iconst X7.here hx rfl (hb hby at_103) ?_
      show Steps p.tables e below (T7.setTop (mkF m 104 #[.val (.int p1), .val (.int p2), .val (.int (1 : Int32)), .val (.ref b4), .unset, .unset] [(.int (1 : Int32)), (.int p2)])) _
      refine XS.iloadN X7.here hx rfl (hb hby at_104) rfl ?_
      show Steps p.tables e below (T7.setTop (mkF m 105 #[.val (.int p1), .val (.int p2), .val (.int (1 : Int32)), .val (.ref b4), .unset, .unset] [(.int (1 : Int32)), (.int (1 : Int32)), (.int p2)])) _
      refine XS.ishl X7.here hx rfl (hb hby at_105) rfl ?_
      show Steps p.tables e below (T7.setTop (mkF m 106 #[.val (.int p1), .val (.int p2), .val (.int (1 : Int32)), .val (.ref b4), .unset, .unset] [(.int ((1 : Int32) <<< ((1 : Int32) &&& 31))), (.int p2)])) _
      refine XS.iconst X7.here hx rfl (hb hby at_106) ?_
      show Steps p.tables e below (T7.setTop (mkF m 107 #[.val (.int p1), .val (.int p2), .val (.int (1 : Int32)), .val (.ref b4), .unset, .unset] [(.int (1 : Int32)), (.int ((1 : Int32) <<< ((1 : Int32) &&& 31))), (.int p2)])) _
      refine XS.isub X7.here hx rfl (hb hby at_107) rfl ?_
      show Steps p.tables e below (T7.setTop (mkF m 108 #[.val (.int p1), .val (.int p2), .val (.int (1 : Int32)), .val (.ref b4), .unset, .unset] [(.int (((1 : Int32) <<< ((1 : Int32) &&& 31)) - (1 : Int32))), (.int p2)])) _
      refine XS.iand X7.here hx rfl (hb hby at_108) rfl ?_
      show Steps p.tables e below (T7.setTop (mkF m 109 #[.val (.int p1), .val (.int p2), .val (.int (1 : Int32)), .val (.ref b4), .unset, .unset] [(.int (p2 &&& (((1 : Int32) <<< ((1 : Int32) &&& 31)) - (1 : Int32))))])) _
      refine XS.istore X7.here hx rfl (hb hby at_109) rfl (l' := #[.val (.int p1), .val (.int p2), .val (.int (1 : Int32)), .val (.ref b4), .val (.int (p2 &&& (((1 : Int32) <<< ((1 : Int32) &&& 31)) - (1 : Int32)))), .unset]) rfl ?_
      show Steps p.tables e below (T7.setTop (mkF m 111 #[.val (.int p1), .val (.int p2), .val (.int (1 : Int32)), .val (.ref b4), .val (.int (p2 &&& (((1 : Int32) <<< ((1 : Int32) &&& 31)) - (1 : Int32)))), .unset] [])) _
      refine sg111k1 _ ?_
      show Steps p.tables e below (T7.setTop (mkF m 121 #[.val (.int p1), .val (.int p2), .val (.int (1 : Int32)), .val (.ref b4), .val (.int (p2 &&& (((1 : Int32) <<< ((1 : Int32) &&& 31)) - (1 : Int32)))), .unset] [(.int j111_S0k1)])) _
      refine XS.istore X7.here hx rfl (hb hby at_121) rfl (l' := #[.val (.int p1), .val (.int p2), .val (.int (1 : Int32)), .val (.ref b4), .val (.int (p2 &&& (((1 : Int32) <<< ((1 : Int32) &&& 31)) - (1 : Int32)))), .val (.int j111_S0k1)]) rfl ?_
      show Steps p.tables e below (T7.setTop (mkF m 123 #[.val (.int p1), .val (.int p2), .val (.int (1 : Int32)), .val (.ref b4), .val (.int (p2 &&& (((1 : Int32) <<< ((1 : Int32) &&& 31)) - (1 : Int32)))), .val (.int j111_S0k1)] [])) _
      refine XS.aloadN X7.here hx rfl (hb hby at_123) rfl rfl ?_
      show Steps p.tables e below (T7.setTop (mkF m 124 #[.val (.int p1), .val (.int p2), .val (.int (1 : Int32)), .val (.ref b4), .val (.int (p2 &&& (((1 : Int32) <<< ((1 : Int32) &&& 31)) - (1 : Int32)))), .val (.int j111_S0k1)] [(.ref b4)])) _
      refine st8 _ ?_
      show Steps p.tables e below (T8.setTop (mkF m 127 #[.val (.int p1), .val (.int p2), .val (.int (1 : Int32)), .val (.ref b4), .val (.int (p2 &&& (((1 : Int32) <<< ((1 : Int32) &&& 31)) - (1 : Int32)))), .val (.int j111_S0k1)] [(.int (own_any1 (nar .boolean (own_bit p2 (0 : Int32)))))])) _
      refine XS.iload X8.here hx rfl (hb hby at_127) rfl ?_
      show Steps p.tables e below (T8.setTop (mkF m 129 #[.val (.int p1), .val (.int p2), .val (.int (1 : Int32)), .val (.ref b4), .val (.int (p2 &&& (((1 : Int32) <<< ((1 : Int32) &&& 31)) - (1 : Int32)))), .val (.int j111_S0k1)] [(.int j111_S0k1), (.int (own_any1 (nar .boolean (own_bit p2 (0 : Int32)))))])) _
      refine XS.icmpNo X8.here hx rfl (hb hby at_129) rfl (teq ((own_all1 p2).trans ej111_S0k1.symm)).2 ?_
      show Steps p.tables e below (T8.setTop (mkF m 132 #[.val (.int p1), .val (.int p2), .val (.int (1 : Int32)), .val (.ref b4), .val (.int (p2 &&& (((1 : Int32) <<< ((1 : Int32) &&& 31)) - (1 : Int32)))), .val (.int j111_S0k1)] [])) _
      refine XS.iconst X8.here hx rfl (hb hby at_132) ?_
      show Steps p.tables e below (T8.setTop (mkF m 133 #[.val (.int p1), .val (.int p2), .val (.int (1 : Int32)), .val (.ref b4), .val (.int (p2 &&& (((1 : Int32) <<< ((1 : Int32) &&& 31)) - (1 : Int32)))), .val (.int j111_S0k1)] [(.int (1 : Int32))])) _
      refine XS.goto X8.here hx rfl (pc0 := 133) (pc' := 137) rfl (hb hby at_133) (by decide) (by decide) ?_
      show Steps p.tables e below (T8.setTop (mkF m 137 #[.val (.int p1), .val (.int p2), .val (.int (1 : Int32)), .val (.ref b4), .val (.int (p2 &&& (((1 : Int32) <<< ((1 : Int32) &&& 31)) - (1 : Int32)))), .val (.int j111_S0k1)] [(.int (1 : Int32))])) _
      exact retN X8 hx (t := .boolean) Bd.returns (by simp) (hb hby at_137) hr
    · show Q0 Z p1 p2 h0 n0 _ T8.heap _
      rw [e8]
      exact ⟨rfl, N8⟩
  · rw [hk] at c1
    obtain ⟨T9, h9, k9, X9, e9, E9, A9, st9⟩ := newP X0 hx hZ (hw _ (List.mem_of_getElem? (i := 0) rfl)) e0 (g := (mkF m 6 #[.val (.int p1), .val (.int p2), .val (.int (2 : Int32)), .unset, .unset, .unset] [(.int (2 : Int32))])) rfl (hb hby at_6) rfl (by decide) (cap := 2) (by decide) (by decide) (by decide) (by decide)
    obtain ⟨b9, g9⟩ : ∃ z, z = h0.size := ⟨_, rfl⟩
    rw [← g9] at A9 st9
    have g_b9 : n0 ≤ b9 := Nat.le_trans Z0 (Nat.le_of_eq g9.symm)
    have Z9 : n0 ≤ h9.size := Nat.le_trans Z0 E9.1
    have V9 : Arv Z h9 b9 k9 .boolean (2 : Int32) [(.int (0 : Int32)), (.int (0 : Int32))] (.int (0 : Int32)) := (Arv.new A9 (by decide)).pad (pad_rep [] (.int (0 : Int32)) 2)
    obtain ⟨_, _, ⟨T10, L10, k10, n10⟩, -, X10, ⟨Lc10, hQ10, l10, y10, z10⟩, st10⟩ := Jvm.LawKit.callS X9 hx (y := (⟨"com/example/braided_tour/braidedtour/choice/LogitAnyAvailablePinLaw", "bit", "(II)Z"⟩ : MethodName)) hown (mvT hZ (hw _ (List.mem_of_getElem? (i := 5) rfl))) (mvT hZ (hw _ (List.mem_of_getElem? (i := 6) rfl))) (mvT hZ (hw _ (List.mem_of_getElem? (i := 7) rfl))) (mvT hZ (hw _ (List.mem_of_getElem? (i := 8) rfl))) (by decide) (backOf (W := 2) (rm2 l Z a0 hw [] p2 (0 : Int32) h9 n0 Z9 ) hZ (hw _ (List.mem_of_getElem? (i := 8) rfl)) (hw _ (List.mem_of_getElem? (i := 7) rfl)) (by decide) (by decide)) (g := (mkF m 17 #[.val (.int p1), .val (.int p2), .val (.int (2 : Int32)), .val (.ref b9), .unset, .unset] [(.int (0 : Int32)), (.int p2), (.int (0 : Int32)), (.ref b9)])) rfl (by rw [hml]; rfl) (argsL := [(.int p2), (.int (0 : Int32))]) (rest := [(.int (0 : Int32)), (.ref b9)]) (lenOf pd0_1 rfl) rfl (by show 2 * 0 + _ ≤ _; exact Nat.le_of_eq rfl) (hb hby at_17) (fun _ _ => ⟨rfl, e9, (by decide : 1 + 0 ≤ _), (by decide : 2 + 0 ≤ _)⟩)
    dsimp only [Pt.U, Pt.locs, Pt.cells, Pt.slots] at X10 l10 y10 z10 st10 hQ10
    subst l10 y10 z10
    obtain ⟨rfl, N10q, e10⟩ := hQ10
    have N10 := Fr.app N0 N10q
    have cp20_11 := V9
    obtain ⟨cl20_11, Ar20_11, qa20_11, Sa20_11, Na20_11, Ha20_11, Ga20_11⟩ := cp20_11
    have hin20_11 : ¬ ((0 : Int32) < 0 ∨ cl20_11.slots.size ≤ ((0 : Int32)).toNatClampNeg) := inb_of Sa20_11 ⟨by decide, by decide⟩
    obtain ⟨T12, h12, X12, e12, W12, st12⟩ := stZ X10 hx hZ e10 Ar20_11 (j := (0 : Int32)) hin20_11 (g := (mkF m 20 #[.val (.int p1), .val (.int p2), .val (.int (2 : Int32)), .val (.ref b9), .unset, .unset] [(.int (own_bit p2 (0 : Int32))), (.int (0 : Int32)), (.ref b9)])) rfl rfl (hb hby at_20)
    have V12 : Arv Z h12 b9 k9 .boolean (2 : Int32) [(.int (nar .boolean (own_bit p2 (0 : Int32)))), (.int (0 : Int32))] (.int (0 : Int32)) := Arv.set Ar20_11 qa20_11 Sa20_11 Na20_11 Ha20_11 Ga20_11 (fits_nar_bool _) W12 0 rfl (Nat.le_of_ble_eq_true rfl)
    have N12 := Fr.snoc X12 N10 g_b9
    have Z12 : n0 ≤ h12.size := Nat.le_trans Z9 (Keep.of_wr W12).1
    obtain ⟨_, _, ⟨T13, L13, k13, n13⟩, -, X13, ⟨Lc13, hQ13, l13, y13, z13⟩, st13⟩ := Jvm.LawKit.callS X12 hx (y := (⟨"com/example/braided_tour/braidedtour/choice/LogitAnyAvailablePinLaw", "bit", "(II)Z"⟩ : MethodName)) hown (mvT hZ (hw _ (List.mem_of_getElem? (i := 5) rfl))) (mvT hZ (hw _ (List.mem_of_getElem? (i := 6) rfl))) (mvT hZ (hw _ (List.mem_of_getElem? (i := 7) rfl))) (mvT hZ (hw _ (List.mem_of_getElem? (i := 8) rfl))) (by decide) (backOf (W := 2) (rm2 l Z a0 hw [] p2 (1 : Int32) h12 n0 Z12 ) hZ (hw _ (List.mem_of_getElem? (i := 8) rfl)) (hw _ (List.mem_of_getElem? (i := 7) rfl)) (by decide) (by decide)) (g := (mkF m 30 #[.val (.int p1), .val (.int p2), .val (.int (2 : Int32)), .val (.ref b9), .unset, .unset] [(.int (1 : Int32)), (.int p2), (.int (1 : Int32)), (.ref b9)])) rfl (by rw [hml]; rfl) (argsL := [(.int p2), (.int (1 : Int32))]) (rest := [(.int (1 : Int32)), (.ref b9)]) (lenOf pd0_1 rfl) rfl (by show 2 * 0 + _ ≤ _; exact Nat.le_of_eq rfl) (hb hby at_30) (fun _ _ => ⟨rfl, e12, (by decide : 1 + 0 ≤ _), (by decide : 2 + 0 ≤ _)⟩)
    dsimp only [Pt.U, Pt.locs, Pt.cells, Pt.slots] at X13 l13 y13 z13 st13 hQ13
    subst l13 y13 z13
    obtain ⟨rfl, N13q, e13⟩ := hQ13
    have N13 := Fr.app N12 N13q
    have cp33_14 := V12
    obtain ⟨cl33_14, Ar33_14, qa33_14, Sa33_14, Na33_14, Ha33_14, Ga33_14⟩ := cp33_14
    have hin33_14 : ¬ ((1 : Int32) < 0 ∨ cl33_14.slots.size ≤ ((1 : Int32)).toNatClampNeg) := inb_of Sa33_14 ⟨by decide, by decide⟩
    obtain ⟨T15, h15, X15, e15, W15, st15⟩ := stZ X13 hx hZ e13 Ar33_14 (j := (1 : Int32)) hin33_14 (g := (mkF m 33 #[.val (.int p1), .val (.int p2), .val (.int (2 : Int32)), .val (.ref b9), .unset, .unset] [(.int (own_bit p2 (1 : Int32))), (.int (1 : Int32)), (.ref b9)])) rfl rfl (hb hby at_33)
    have V15 : Arv Z h15 b9 k9 .boolean (2 : Int32) [(.int (nar .boolean (own_bit p2 (0 : Int32)))), (.int (nar .boolean (own_bit p2 (1 : Int32))))] (.int (0 : Int32)) := Arv.set Ar33_14 qa33_14 Sa33_14 Na33_14 Ha33_14 Ga33_14 (fits_nar_bool _) W15 1 rfl (Nat.le_of_ble_eq_true rfl)
    have N15 := Fr.snoc X15 N13 g_b9
    have Z15 : n0 ≤ h15.size := Nat.le_trans Z12 (Keep.of_wr W15).1
    obtain ⟨j111_S0k2, ej111_S0k2⟩ : ∃ z : Int32, z = (if (p2 &&& (((1 : Int32) <<< ((2 : Int32) &&& 31)) - (1 : Int32))) = (0 : Int32) then (0 : Int32) else (1 : Int32)) := ⟨_, rfl⟩
    have sg111k2 : ∀ t, Steps p.tables e below (T15.setTop (mkF m 121 #[.val (.int p1), .val (.int p2), .val (.int (2 : Int32)), .val (.ref b9), .val (.int (p2 &&& (((1 : Int32) <<< ((2 : Int32) &&& 31)) - (1 : Int32)))), .unset] [(.int j111_S0k2)])) t → Steps p.tables e below (T15.setTop (mkF m 111 #[.val (.int p1), .val (.int p2), .val (.int (2 : Int32)), .val (.ref b9), .val (.int (p2 &&& (((1 : Int32) <<< ((2 : Int32) &&& 31)) - (1 : Int32)))), .unset] [])) t := fun t kt => by
      show Steps p.tables e below (T15.setTop (mkF m 111 #[.val (.int p1), .val (.int p2), .val (.int (2 : Int32)), .val (.ref b9), .val (.int (p2 &&& (((1 : Int32) <<< ((2 : Int32) &&& 31)) - (1 : Int32)))), .unset] [])) _
      refine XS.iload X15.here hx rfl (hb hby at_111) rfl ?_
      by_cases hc113 : (p2 &&& (((1 : Int32) <<< ((2 : Int32) &&& 31)) - (1 : Int32))) = (0 : Int32)
      · have qj111_S0k2 : j111_S0k2 = (0 : Int32) := by rw [ej111_S0k2, if_pos hc113]
        rw [qj111_S0k2] at kt
        show Steps p.tables e below (T15.setTop (mkF m 113 #[.val (.int p1), .val (.int p2), .val (.int (2 : Int32)), .val (.ref b9), .val (.int (p2 &&& (((1 : Int32) <<< ((2 : Int32) &&& 31)) - (1 : Int32)))), .unset] [(.int (p2 &&& (((1 : Int32) <<< ((2 : Int32) &&& 31)) - (1 : Int32))))])) _
        refine XS.ifYes X15.here hx rfl (pc0 := 113) (pc' := 120) rfl (hb hby at_113) rfl ((if0 _ _).trans (teq hc113).1) (by decide) (by decide) ?_
        show Steps p.tables e below (T15.setTop (mkF m 120 #[.val (.int p1), .val (.int p2), .val (.int (2 : Int32)), .val (.ref b9), .val (.int (p2 &&& (((1 : Int32) <<< ((2 : Int32) &&& 31)) - (1 : Int32)))), .unset] [])) _
        refine XS.iconst X15.here hx rfl (hb hby at_120) ?_
        exact kt
      · have qj111_S0k2 : j111_S0k2 = (1 : Int32) := by rw [ej111_S0k2, if_neg hc113]
        rw [qj111_S0k2] at kt
        show Steps p.tables e below (T15.setTop (mkF m 113 #[.val (.int p1), .val (.int p2), .val (.int (2 : Int32)), .val (.ref b9), .val (.int (p2 &&& (((1 : Int32) <<< ((2 : Int32) &&& 31)) - (1 : Int32)))), .unset] [(.int (p2 &&& (((1 : Int32) <<< ((2 : Int32) &&& 31)) - (1 : Int32))))])) _
        refine XS.ifNo X15.here hx rfl (hb hby at_113) rfl ((if0 _ _).trans (feq hc113).1) ?_
        show Steps p.tables e below (T15.setTop (mkF m 116 #[.val (.int p1), .val (.int p2), .val (.int (2 : Int32)), .val (.ref b9), .val (.int (p2 &&& (((1 : Int32) <<< ((2 : Int32) &&& 31)) - (1 : Int32)))), .unset] [])) _
        refine XS.iconst X15.here hx rfl (hb hby at_116) ?_
        show Steps p.tables e below (T15.setTop (mkF m 117 #[.val (.int p1), .val (.int p2), .val (.int (2 : Int32)), .val (.ref b9), .val (.int (p2 &&& (((1 : Int32) <<< ((2 : Int32) &&& 31)) - (1 : Int32)))), .unset] [(.int (1 : Int32))])) _
        refine XS.goto X15.here hx rfl (pc0 := 117) (pc' := 121) rfl (hb hby at_117) (by decide) (by decide) ?_
        exact kt
    obtain ⟨_, _, ⟨T16, L16, k16, n16⟩, -, X16, ⟨Lc16, hQ16, l16, y16, z16⟩, st16⟩ := Jvm.LawKit.callS X15 hx (y := (⟨"com/example/braided_tour/braidedtour/choice/Logit", "anyAvailable", "([Z)Z"⟩ : MethodName)) hown (mvT hZ (hw _ (List.mem_of_getElem? (i := 1) rfl))) (mvT hZ (hw _ (List.mem_of_getElem? (i := 2) rfl))) (mvT hZ (hw _ (List.mem_of_getElem? (i := 3) rfl))) (mvT hZ (hw _ (List.mem_of_getElem? (i := 4) rfl))) (by decide) (backOf (W := 0) (rm1n2 l Z a0 hw [] b9 k9 (nar .boolean (own_bit p2 (0 : Int32))) (nar .boolean (own_bit p2 (1 : Int32))) h15 n0 Z15 V15) hZ (hw _ (List.mem_of_getElem? (i := 4) rfl)) (hw _ (List.mem_of_getElem? (i := 3) rfl)) (by decide) (by decide)) (g := (mkF m 124 #[.val (.int p1), .val (.int p2), .val (.int (2 : Int32)), .val (.ref b9), .val (.int (p2 &&& (((1 : Int32) <<< ((2 : Int32) &&& 31)) - (1 : Int32)))), .val (.int j111_S0k2)] [(.ref b9)])) rfl (by rw [hml]; rfl) (argsL := [(.ref b9)]) (rest := []) (lenOf pd0_0 rfl) rfl (by show 2 * 0 + _ ≤ _; exact Nat.le_of_eq rfl) (hb hby at_124) (fun _ _ => ⟨rfl, e15, (by decide : 1 + 0 ≤ _), (by decide : 2 + 0 ≤ _)⟩)
    dsimp only [Pt.U, Pt.locs, Pt.cells, Pt.slots] at X16 l16 y16 z16 st16 hQ16
    subst l16 y16 z16
    obtain ⟨rfl, N16q, e16⟩ := hQ16
    have N16 := Fr.app N15 N16q
    obtain ⟨fs, hr, hrun, hended, hW, hsame⟩ := X16.leave (v := some (.int (1 : Int32))) (fun h => by rw [Bd.returns] at h; cases h)
    refine ⟨_, _, c1 _ ?_, hrun, hended, _, _, rfl, ?_, ⟨_, rfl⟩, hW, hsame.mono (by decide) (by decide)⟩
    · show Steps p.tables e below (s₁.setTop (mkF m 5 #[.val (.int p1), .val (.int p2), .val (.int (2 : Int32)), .unset, .unset, .unset] [])) _
      refine XS.iloadN X0.here hx rfl (hb hby at_5) rfl ?_
      show Steps p.tables e below (s₁.setTop (mkF m 6 #[.val (.int p1), .val (.int p2), .val (.int (2 : Int32)), .unset, .unset, .unset] [(.int (2 : Int32))])) _
      refine st9 _ ?_
      show Steps p.tables e below (T9.setTop (mkF m 8 #[.val (.int p1), .val (.int p2), .val (.int (2 : Int32)), .unset, .unset, .unset] [(.ref b9)])) _
      refine XS.astoreN X9.here hx rfl (hb hby at_8) rfl rfl (l' := #[.val (.int p1), .val (.int p2), .val (.int (2 : Int32)), .val (.ref b9), .unset, .unset]) rfl ?_
      show Steps p.tables e below (T9.setTop (mkF m 9 #[.val (.int p1), .val (.int p2), .val (.int (2 : Int32)), .val (.ref b9), .unset, .unset] [])) _
      refine XS.iloadN X9.here hx rfl (hb hby at_9) rfl ?_
      show Steps p.tables e below (T9.setTop (mkF m 10 #[.val (.int p1), .val (.int p2), .val (.int (2 : Int32)), .val (.ref b9), .unset, .unset] [(.int (2 : Int32))])) _
      refine XS.ifNo X9.here hx rfl (hb hby at_10) rfl ((if0 _ _).trans (tlt (by decide)).2.2.2) ?_
      show Steps p.tables e below (T9.setTop (mkF m 13 #[.val (.int p1), .val (.int p2), .val (.int (2 : Int32)), .val (.ref b9), .unset, .unset] [])) _
      refine XS.aloadN X9.here hx rfl (hb hby at_13) rfl rfl ?_
      show Steps p.tables e below (T9.setTop (mkF m 14 #[.val (.int p1), .val (.int p2), .val (.int (2 : Int32)), .val (.ref b9), .unset, .unset] [(.ref b9)])) _
      refine XS.iconst X9.here hx rfl (hb hby at_14) ?_
      show Steps p.tables e below (T9.setTop (mkF m 15 #[.val (.int p1), .val (.int p2), .val (.int (2 : Int32)), .val (.ref b9), .unset, .unset] [(.int (0 : Int32)), (.ref b9)])) _
      refine XS.iloadN X9.here hx rfl (hb hby at_15) rfl ?_
      show Steps p.tables e below (T9.setTop (mkF m 16 #[.val (.int p1), .val (.int p2), .val (.int (2 : Int32)), .val (.ref b9), .unset, .unset] [(.int p2), (.int (0 : Int32)), (.ref b9)])) _
      refine XS.iconst X9.here hx rfl (hb hby at_16) ?_
      show Steps p.tables e below (T9.setTop (mkF m 17 #[.val (.int p1), .val (.int p2), .val (.int (2 : Int32)), .val (.ref b9), .unset, .unset] [(.int (0 : Int32)), (.int p2), (.int (0 : Int32)), (.ref b9)])) _
      refine st10 _ ?_
      show Steps p.tables e below (T10.setTop (mkF m 20 #[.val (.int p1), .val (.int p2), .val (.int (2 : Int32)), .val (.ref b9), .unset, .unset] [(.int (own_bit p2 (0 : Int32))), (.int (0 : Int32)), (.ref b9)])) _
      refine st12 _ ?_
      show Steps p.tables e below (T12.setTop (mkF m 21 #[.val (.int p1), .val (.int p2), .val (.int (2 : Int32)), .val (.ref b9), .unset, .unset] [])) _
      refine XS.iloadN X12.here hx rfl (hb hby at_21) rfl ?_
      show Steps p.tables e below (T12.setTop (mkF m 22 #[.val (.int p1), .val (.int p2), .val (.int (2 : Int32)), .val (.ref b9), .unset, .unset] [(.int (2 : Int32))])) _
      refine XS.iconst X12.here hx rfl (hb hby at_22) ?_
      show Steps p.tables e below (T12.setTop (mkF m 23 #[.val (.int p1), .val (.int p2), .val (.int (2 : Int32)), .val (.ref b9), .unset, .unset] [(.int (1 : Int32)), (.int (2 : Int32))])) _
      refine XS.icmpNo X12.here hx rfl (hb hby at_23) rfl (tlt (by decide)).2.2.2 ?_
      show Steps p.tables e below (T12.setTop (mkF m 26 #[.val (.int p1), .val (.int p2), .val (.int (2 : Int32)), .val (.ref b9), .unset, .unset] [])) _
      refine XS.aloadN X12.here hx rfl (hb hby at_26) rfl rfl ?_
      show Steps p.tables e below (T12.setTop (mkF m 27 #[.val (.int p1), .val (.int p2), .val (.int (2 : Int32)), .val (.ref b9), .unset, .unset] [(.ref b9)])) _
      refine XS.iconst X12.here hx rfl (hb hby at_27) ?_
      show Steps p.tables e below (T12.setTop (mkF m 28 #[.val (.int p1), .val (.int p2), .val (.int (2 : Int32)), .val (.ref b9), .unset, .unset] [(.int (1 : Int32)), (.ref b9)])) _
      refine XS.iloadN X12.here hx rfl (hb hby at_28) rfl ?_
      show Steps p.tables e below (T12.setTop (mkF m 29 #[.val (.int p1), .val (.int p2), .val (.int (2 : Int32)), .val (.ref b9), .unset, .unset] [(.int p2), (.int (1 : Int32)), (.ref b9)])) _
      refine XS.iconst X12.here hx rfl (hb hby at_29) ?_
      show Steps p.tables e below (T12.setTop (mkF m 30 #[.val (.int p1), .val (.int p2), .val (.int (2 : Int32)), .val (.ref b9), .unset, .unset] [(.int (1 : Int32)), (.int p2), (.int (1 : Int32)), (.ref b9)])) _
      refine st13 _ ?_
      show Steps p.tables e below (T13.setTop (mkF m 33 #[.val (.int p1), .val (.int p2), .val (.int (2 : Int32)), .val (.ref b9), .unset, .unset] [(.int (own_bit p2 (1 : Int32))), (.int (1 : Int32)), (.ref b9)])) _
      refine st15 _ ?_
      show Steps p.tables e below (T15.setTop (mkF m 34 #[.val (.int p1), .val (.int p2), .val (.int (2 : Int32)), .val (.ref b9), .unset, .unset] [])) _
      refine XS.iloadN X15.here hx rfl (hb hby at_34) rfl ?_
      show Steps p.tables e below (T15.setTop (mkF m 35 #[.val (.int p1), .val (.int p2), .val (.int (2 : Int32)), .val (.ref b9), .unset, .unset] [(.int (2 : Int32))])) _
      refine XS.iconst X15.here hx rfl (hb hby at_35) ?_
      show Steps p.tables e below (T15.setTop (mkF m 36 #[.val (.int p1), .val (.int p2), .val (.int (2 : Int32)), .val (.ref b9), .unset, .unset] [(.int (2 : Int32)), (.int (2 : Int32))])) _
      refine XS.icmpYes X15.here hx rfl (pc0 := 36) (pc' := 47) rfl (hb hby at_36) rfl (flt (by decide)).2.2.2 (by decide) (by decide) ?_
      show Steps p.tables e below (T15.setTop (mkF m 47 #[.val (.int p1), .val (.int p2), .val (.int (2 : Int32)), .val (.ref b9), .unset, .unset] [])) _
      refine XS.iloadN X15.here hx rfl (hb hby at_47) rfl ?_
      show Steps p.tables e below (T15.setTop (mkF m 48 #[.val (.int p1), .val (.int p2), .val (.int (2 : Int32)), .val (.ref b9), .unset, .unset] [(.int (2 : Int32))])) _
      refine XS.iconst X15.here hx rfl (hb hby at_48) ?_
      show Steps p.tables e below (T15.setTop (mkF m 49 #[.val (.int p1), .val (.int p2), .val (.int (2 : Int32)), .val (.ref b9), .unset, .unset] [(.int (3 : Int32)), (.int (2 : Int32))])) _
      refine XS.icmpYes X15.here hx rfl (pc0 := 49) (pc' := 60) rfl (hb hby at_49) rfl (flt (by decide)).2.2.2 (by decide) (by decide) ?_
      show Steps p.tables e below (T15.setTop (mkF m 60 #[.val (.int p1), .val (.int p2), .val (.int (2 : Int32)), .val (.ref b9), .unset, .unset] [])) _
      refine XS.iloadN X15.here hx rfl (hb hby at_60) rfl ?_
      show Steps p.tables e below (T15.setTop (mkF m 61 #[.val (.int p1), .val (.int p2), .val (.int (2 : Int32)), .val (.ref b9), .unset, .unset] [(.int (2 : Int32))])) _
      refine XS.iconst X15.here hx rfl (hb hby at_61) ?_
      show Steps p.tables e below (T15.setTop (mkF m 62 #[.val (.int p1), .val (.int p2), .val (.int (2 : Int32)), .val (.ref b9), .unset, .unset] [(.int (4 : Int32)), (.int (2 : Int32))])) _
      refine XS.icmpYes X15.here hx rfl (pc0 := 62) (pc' := 73) rfl (hb hby at_62) rfl (flt (by decide)).2.2.2 (by decide) (by decide) ?_
      show Steps p.tables e below (T15.setTop (mkF m 73 #[.val (.int p1), .val (.int p2), .val (.int (2 : Int32)), .val (.ref b9), .unset, .unset] [])) _
      refine XS.iloadN X15.here hx rfl (hb hby at_73) rfl ?_
      show Steps p.tables e below (T15.setTop (mkF m 74 #[.val (.int p1), .val (.int p2), .val (.int (2 : Int32)), .val (.ref b9), .unset, .unset] [(.int (2 : Int32))])) _
      refine XS.iconst X15.here hx rfl (hb hby at_74) ?_
      show Steps p.tables e below (T15.setTop (mkF m 75 #[.val (.int p1), .val (.int p2), .val (.int (2 : Int32)), .val (.ref b9), .unset, .unset] [(.int (5 : Int32)), (.int (2 : Int32))])) _
      refine XS.icmpYes X15.here hx rfl (pc0 := 75) (pc' := 86) rfl (hb hby at_75) rfl (flt (by decide)).2.2.2 (by decide) (by decide) ?_
      show Steps p.tables e below (T15.setTop (mkF m 86 #[.val (.int p1), .val (.int p2), .val (.int (2 : Int32)), .val (.ref b9), .unset, .unset] [])) _
      refine XS.iloadN X15.here hx rfl (hb hby at_86) rfl ?_
      show Steps p.tables e below (T15.setTop (mkF m 87 #[.val (.int p1), .val (.int p2), .val (.int (2 : Int32)), .val (.ref b9), .unset, .unset] [(.int (2 : Int32))])) _
      refine XS.bipush X15.here hx rfl (hb hby at_87) ?_
      show Steps p.tables e below (T15.setTop (mkF m 89 #[.val (.int p1), .val (.int p2), .val (.int (2 : Int32)), .val (.ref b9), .unset, .unset] [(.int (6 : Int32)), (.int (2 : Int32))])) _
      refine XS.icmpYes X15.here hx rfl (pc0 := 89) (pc' := 102) rfl (hb hby at_89) rfl (flt (by decide)).2.2.2 (by decide) (by decide) ?_
      show Steps p.tables e below (T15.setTop (mkF m 102 #[.val (.int p1), .val (.int p2), .val (.int (2 : Int32)), .val (.ref b9), .unset, .unset] [])) _
      refine XS.iloadN X15.here hx rfl (hb hby at_102) rfl ?_
      show Steps p.tables e below (T15.setTop (mkF m 103 #[.val (.int p1), .val (.int p2), .val (.int (2 : Int32)), .val (.ref b9), .unset, .unset] [(.int p2)])) _
      refine XS.iconst X15.here hx rfl (hb hby at_103) ?_
      show Steps p.tables e below (T15.setTop (mkF m 104 #[.val (.int p1), .val (.int p2), .val (.int (2 : Int32)), .val (.ref b9), .unset, .unset] [(.int (1 : Int32)), (.int p2)])) _
      refine XS.iloadN X15.here hx rfl (hb hby at_104) rfl ?_
      show Steps p.tables e below (T15.setTop (mkF m 105 #[.val (.int p1), .val (.int p2), .val (.int (2 : Int32)), .val (.ref b9), .unset, .unset] [(.int (2 : Int32)), (.int (1 : Int32)), (.int p2)])) _
      refine XS.ishl X15.here hx rfl (hb hby at_105) rfl ?_
      show Steps p.tables e below (T15.setTop (mkF m 106 #[.val (.int p1), .val (.int p2), .val (.int (2 : Int32)), .val (.ref b9), .unset, .unset] [(.int ((1 : Int32) <<< ((2 : Int32) &&& 31))), (.int p2)])) _
      refine XS.iconst X15.here hx rfl (hb hby at_106) ?_
      show Steps p.tables e below (T15.setTop (mkF m 107 #[.val (.int p1), .val (.int p2), .val (.int (2 : Int32)), .val (.ref b9), .unset, .unset] [(.int (1 : Int32)), (.int ((1 : Int32) <<< ((2 : Int32) &&& 31))), (.int p2)])) _
      refine XS.isub X15.here hx rfl (hb hby at_107) rfl ?_
      show Steps p.tables e below (T15.setTop (mkF m 108 #[.val (.int p1), .val (.int p2), .val (.int (2 : Int32)), .val (.ref b9), .unset, .unset] [(.int (((1 : Int32) <<< ((2 : Int32) &&& 31)) - (1 : Int32))), (.int p2)])) _
      refine XS.iand X15.here hx rfl (hb hby at_108) rfl ?_
      show Steps p.tables e below (T15.setTop (mkF m 109 #[.val (.int p1), .val (.int p2), .val (.int (2 : Int32)), .val (.ref b9), .unset, .unset] [(.int (p2 &&& (((1 : Int32) <<< ((2 : Int32) &&& 31)) - (1 : Int32))))])) _
      refine XS.istore X15.here hx rfl (hb hby at_109) rfl (l' := #[.val (.int p1), .val (.int p2), .val (.int (2 : Int32)), .val (.ref b9), .val (.int (p2 &&& (((1 : Int32) <<< ((2 : Int32) &&& 31)) - (1 : Int32)))), .unset]) rfl ?_
      show Steps p.tables e below (T15.setTop (mkF m 111 #[.val (.int p1), .val (.int p2), .val (.int (2 : Int32)), .val (.ref b9), .val (.int (p2 &&& (((1 : Int32) <<< ((2 : Int32) &&& 31)) - (1 : Int32)))), .unset] [])) _
      refine sg111k2 _ ?_
      show Steps p.tables e below (T15.setTop (mkF m 121 #[.val (.int p1), .val (.int p2), .val (.int (2 : Int32)), .val (.ref b9), .val (.int (p2 &&& (((1 : Int32) <<< ((2 : Int32) &&& 31)) - (1 : Int32)))), .unset] [(.int j111_S0k2)])) _
      refine XS.istore X15.here hx rfl (hb hby at_121) rfl (l' := #[.val (.int p1), .val (.int p2), .val (.int (2 : Int32)), .val (.ref b9), .val (.int (p2 &&& (((1 : Int32) <<< ((2 : Int32) &&& 31)) - (1 : Int32)))), .val (.int j111_S0k2)]) rfl ?_
      show Steps p.tables e below (T15.setTop (mkF m 123 #[.val (.int p1), .val (.int p2), .val (.int (2 : Int32)), .val (.ref b9), .val (.int (p2 &&& (((1 : Int32) <<< ((2 : Int32) &&& 31)) - (1 : Int32)))), .val (.int j111_S0k2)] [])) _
      refine XS.aloadN X15.here hx rfl (hb hby at_123) rfl rfl ?_
      show Steps p.tables e below (T15.setTop (mkF m 124 #[.val (.int p1), .val (.int p2), .val (.int (2 : Int32)), .val (.ref b9), .val (.int (p2 &&& (((1 : Int32) <<< ((2 : Int32) &&& 31)) - (1 : Int32)))), .val (.int j111_S0k2)] [(.ref b9)])) _
      refine st16 _ ?_
      show Steps p.tables e below (T16.setTop (mkF m 127 #[.val (.int p1), .val (.int p2), .val (.int (2 : Int32)), .val (.ref b9), .val (.int (p2 &&& (((1 : Int32) <<< ((2 : Int32) &&& 31)) - (1 : Int32)))), .val (.int j111_S0k2)] [(.int (own_any2 (nar .boolean (own_bit p2 (0 : Int32))) (nar .boolean (own_bit p2 (1 : Int32)))))])) _
      refine XS.iload X16.here hx rfl (hb hby at_127) rfl ?_
      show Steps p.tables e below (T16.setTop (mkF m 129 #[.val (.int p1), .val (.int p2), .val (.int (2 : Int32)), .val (.ref b9), .val (.int (p2 &&& (((1 : Int32) <<< ((2 : Int32) &&& 31)) - (1 : Int32)))), .val (.int j111_S0k2)] [(.int j111_S0k2), (.int (own_any2 (nar .boolean (own_bit p2 (0 : Int32))) (nar .boolean (own_bit p2 (1 : Int32)))))])) _
      refine XS.icmpNo X16.here hx rfl (hb hby at_129) rfl (teq ((own_all2 p2).trans ej111_S0k2.symm)).2 ?_
      show Steps p.tables e below (T16.setTop (mkF m 132 #[.val (.int p1), .val (.int p2), .val (.int (2 : Int32)), .val (.ref b9), .val (.int (p2 &&& (((1 : Int32) <<< ((2 : Int32) &&& 31)) - (1 : Int32)))), .val (.int j111_S0k2)] [])) _
      refine XS.iconst X16.here hx rfl (hb hby at_132) ?_
      show Steps p.tables e below (T16.setTop (mkF m 133 #[.val (.int p1), .val (.int p2), .val (.int (2 : Int32)), .val (.ref b9), .val (.int (p2 &&& (((1 : Int32) <<< ((2 : Int32) &&& 31)) - (1 : Int32)))), .val (.int j111_S0k2)] [(.int (1 : Int32))])) _
      refine XS.goto X16.here hx rfl (pc0 := 133) (pc' := 137) rfl (hb hby at_133) (by decide) (by decide) ?_
      show Steps p.tables e below (T16.setTop (mkF m 137 #[.val (.int p1), .val (.int p2), .val (.int (2 : Int32)), .val (.ref b9), .val (.int (p2 &&& (((1 : Int32) <<< ((2 : Int32) &&& 31)) - (1 : Int32)))), .val (.int j111_S0k2)] [(.int (1 : Int32))])) _
      exact retN X16 hx (t := .boolean) Bd.returns (by simp) (hb hby at_137) hr
    · show Q0 Z p1 p2 h0 n0 _ T16.heap _
      rw [e16]
      exact ⟨rfl, N16⟩
  · rw [hk] at c1
    obtain ⟨T17, h17, k17, X17, e17, E17, A17, st17⟩ := newP X0 hx hZ (hw _ (List.mem_of_getElem? (i := 0) rfl)) e0 (g := (mkF m 6 #[.val (.int p1), .val (.int p2), .val (.int (3 : Int32)), .unset, .unset, .unset] [(.int (3 : Int32))])) rfl (hb hby at_6) rfl (by decide) (cap := 3) (by decide) (by decide) (by decide) (by decide)
    obtain ⟨b17, g17⟩ : ∃ z, z = h0.size := ⟨_, rfl⟩
    rw [← g17] at A17 st17
    have g_b17 : n0 ≤ b17 := Nat.le_trans Z0 (Nat.le_of_eq g17.symm)
    have Z17 : n0 ≤ h17.size := Nat.le_trans Z0 E17.1
    have V17 : Arv Z h17 b17 k17 .boolean (3 : Int32) [(.int (0 : Int32)), (.int (0 : Int32)), (.int (0 : Int32))] (.int (0 : Int32)) := (Arv.new A17 (by decide)).pad (pad_rep [] (.int (0 : Int32)) 3)
    obtain ⟨_, _, ⟨T18, L18, k18, n18⟩, -, X18, ⟨Lc18, hQ18, l18, y18, z18⟩, st18⟩ := Jvm.LawKit.callS X17 hx (y := (⟨"com/example/braided_tour/braidedtour/choice/LogitAnyAvailablePinLaw", "bit", "(II)Z"⟩ : MethodName)) hown (mvT hZ (hw _ (List.mem_of_getElem? (i := 5) rfl))) (mvT hZ (hw _ (List.mem_of_getElem? (i := 6) rfl))) (mvT hZ (hw _ (List.mem_of_getElem? (i := 7) rfl))) (mvT hZ (hw _ (List.mem_of_getElem? (i := 8) rfl))) (by decide) (backOf (W := 2) (rm2 l Z a0 hw [] p2 (0 : Int32) h17 n0 Z17 ) hZ (hw _ (List.mem_of_getElem? (i := 8) rfl)) (hw _ (List.mem_of_getElem? (i := 7) rfl)) (by decide) (by decide)) (g := (mkF m 17 #[.val (.int p1), .val (.int p2), .val (.int (3 : Int32)), .val (.ref b17), .unset, .unset] [(.int (0 : Int32)), (.int p2), (.int (0 : Int32)), (.ref b17)])) rfl (by rw [hml]; rfl) (argsL := [(.int p2), (.int (0 : Int32))]) (rest := [(.int (0 : Int32)), (.ref b17)]) (lenOf pd0_1 rfl) rfl (by show 2 * 0 + _ ≤ _; exact Nat.le_of_eq rfl) (hb hby at_17) (fun _ _ => ⟨rfl, e17, (by decide : 1 + 0 ≤ _), (by decide : 3 + 0 ≤ _)⟩)
    dsimp only [Pt.U, Pt.locs, Pt.cells, Pt.slots] at X18 l18 y18 z18 st18 hQ18
    subst l18 y18 z18
    obtain ⟨rfl, N18q, e18⟩ := hQ18
    have N18 := Fr.app N0 N18q
    have cp20_19 := V17
    obtain ⟨cl20_19, Ar20_19, qa20_19, Sa20_19, Na20_19, Ha20_19, Ga20_19⟩ := cp20_19
    have hin20_19 : ¬ ((0 : Int32) < 0 ∨ cl20_19.slots.size ≤ ((0 : Int32)).toNatClampNeg) := inb_of Sa20_19 ⟨by decide, by decide⟩
    obtain ⟨T20, h20, X20, e20, W20, st20⟩ := stZ X18 hx hZ e18 Ar20_19 (j := (0 : Int32)) hin20_19 (g := (mkF m 20 #[.val (.int p1), .val (.int p2), .val (.int (3 : Int32)), .val (.ref b17), .unset, .unset] [(.int (own_bit p2 (0 : Int32))), (.int (0 : Int32)), (.ref b17)])) rfl rfl (hb hby at_20)
    have V20 : Arv Z h20 b17 k17 .boolean (3 : Int32) [(.int (nar .boolean (own_bit p2 (0 : Int32)))), (.int (0 : Int32)), (.int (0 : Int32))] (.int (0 : Int32)) := Arv.set Ar20_19 qa20_19 Sa20_19 Na20_19 Ha20_19 Ga20_19 (fits_nar_bool _) W20 0 rfl (Nat.le_of_ble_eq_true rfl)
    have N20 := Fr.snoc X20 N18 g_b17
    have Z20 : n0 ≤ h20.size := Nat.le_trans Z17 (Keep.of_wr W20).1
    obtain ⟨_, _, ⟨T21, L21, k21, n21⟩, -, X21, ⟨Lc21, hQ21, l21, y21, z21⟩, st21⟩ := Jvm.LawKit.callS X20 hx (y := (⟨"com/example/braided_tour/braidedtour/choice/LogitAnyAvailablePinLaw", "bit", "(II)Z"⟩ : MethodName)) hown (mvT hZ (hw _ (List.mem_of_getElem? (i := 5) rfl))) (mvT hZ (hw _ (List.mem_of_getElem? (i := 6) rfl))) (mvT hZ (hw _ (List.mem_of_getElem? (i := 7) rfl))) (mvT hZ (hw _ (List.mem_of_getElem? (i := 8) rfl))) (by decide) (backOf (W := 2) (rm2 l Z a0 hw [] p2 (1 : Int32) h20 n0 Z20 ) hZ (hw _ (List.mem_of_getElem? (i := 8) rfl)) (hw _ (List.mem_of_getElem? (i := 7) rfl)) (by decide) (by decide)) (g := (mkF m 30 #[.val (.int p1), .val (.int p2), .val (.int (3 : Int32)), .val (.ref b17), .unset, .unset] [(.int (1 : Int32)), (.int p2), (.int (1 : Int32)), (.ref b17)])) rfl (by rw [hml]; rfl) (argsL := [(.int p2), (.int (1 : Int32))]) (rest := [(.int (1 : Int32)), (.ref b17)]) (lenOf pd0_1 rfl) rfl (by show 2 * 0 + _ ≤ _; exact Nat.le_of_eq rfl) (hb hby at_30) (fun _ _ => ⟨rfl, e20, (by decide : 1 + 0 ≤ _), (by decide : 3 + 0 ≤ _)⟩)
    dsimp only [Pt.U, Pt.locs, Pt.cells, Pt.slots] at X21 l21 y21 z21 st21 hQ21
    subst l21 y21 z21
    obtain ⟨rfl, N21q, e21⟩ := hQ21
    have N21 := Fr.app N20 N21q
    have cp33_22 := V20
    obtain ⟨cl33_22, Ar33_22, qa33_22, Sa33_22, Na33_22, Ha33_22, Ga33_22⟩ := cp33_22
    have hin33_22 : ¬ ((1 : Int32) < 0 ∨ cl33_22.slots.size ≤ ((1 : Int32)).toNatClampNeg) := inb_of Sa33_22 ⟨by decide, by decide⟩
    obtain ⟨T23, h23, X23, e23, W23, st23⟩ := stZ X21 hx hZ e21 Ar33_22 (j := (1 : Int32)) hin33_22 (g := (mkF m 33 #[.val (.int p1), .val (.int p2), .val (.int (3 : Int32)), .val (.ref b17), .unset, .unset] [(.int (own_bit p2 (1 : Int32))), (.int (1 : Int32)), (.ref b17)])) rfl rfl (hb hby at_33)
    have V23 : Arv Z h23 b17 k17 .boolean (3 : Int32) [(.int (nar .boolean (own_bit p2 (0 : Int32)))), (.int (nar .boolean (own_bit p2 (1 : Int32)))), (.int (0 : Int32))] (.int (0 : Int32)) := Arv.set Ar33_22 qa33_22 Sa33_22 Na33_22 Ha33_22 Ga33_22 (fits_nar_bool _) W23 1 rfl (Nat.le_of_ble_eq_true rfl)
    have N23 := Fr.snoc X23 N21 g_b17
    have Z23 : n0 ≤ h23.size := Nat.le_trans Z20 (Keep.of_wr W23).1
    obtain ⟨_, _, ⟨T24, L24, k24, n24⟩, -, X24, ⟨Lc24, hQ24, l24, y24, z24⟩, st24⟩ := Jvm.LawKit.callS X23 hx (y := (⟨"com/example/braided_tour/braidedtour/choice/LogitAnyAvailablePinLaw", "bit", "(II)Z"⟩ : MethodName)) hown (mvT hZ (hw _ (List.mem_of_getElem? (i := 5) rfl))) (mvT hZ (hw _ (List.mem_of_getElem? (i := 6) rfl))) (mvT hZ (hw _ (List.mem_of_getElem? (i := 7) rfl))) (mvT hZ (hw _ (List.mem_of_getElem? (i := 8) rfl))) (by decide) (backOf (W := 2) (rm2 l Z a0 hw [] p2 (2 : Int32) h23 n0 Z23 ) hZ (hw _ (List.mem_of_getElem? (i := 8) rfl)) (hw _ (List.mem_of_getElem? (i := 7) rfl)) (by decide) (by decide)) (g := (mkF m 43 #[.val (.int p1), .val (.int p2), .val (.int (3 : Int32)), .val (.ref b17), .unset, .unset] [(.int (2 : Int32)), (.int p2), (.int (2 : Int32)), (.ref b17)])) rfl (by rw [hml]; rfl) (argsL := [(.int p2), (.int (2 : Int32))]) (rest := [(.int (2 : Int32)), (.ref b17)]) (lenOf pd0_1 rfl) rfl (by show 2 * 0 + _ ≤ _; exact Nat.le_of_eq rfl) (hb hby at_43) (fun _ _ => ⟨rfl, e23, (by decide : 1 + 0 ≤ _), (by decide : 3 + 0 ≤ _)⟩)
    dsimp only [Pt.U, Pt.locs, Pt.cells, Pt.slots] at X24 l24 y24 z24 st24 hQ24
    subst l24 y24 z24
    obtain ⟨rfl, N24q, e24⟩ := hQ24
    have N24 := Fr.app N23 N24q
    have cp46_25 := V23
    obtain ⟨cl46_25, Ar46_25, qa46_25, Sa46_25, Na46_25, Ha46_25, Ga46_25⟩ := cp46_25
    have hin46_25 : ¬ ((2 : Int32) < 0 ∨ cl46_25.slots.size ≤ ((2 : Int32)).toNatClampNeg) := inb_of Sa46_25 ⟨by decide, by decide⟩
    obtain ⟨T26, h26, X26, e26, W26, st26⟩ := stZ X24 hx hZ e24 Ar46_25 (j := (2 : Int32)) hin46_25 (g := (mkF m 46 #[.val (.int p1), .val (.int p2), .val (.int (3 : Int32)), .val (.ref b17), .unset, .unset] [(.int (own_bit p2 (2 : Int32))), (.int (2 : Int32)), (.ref b17)])) rfl rfl (hb hby at_46)
    have V26 : Arv Z h26 b17 k17 .boolean (3 : Int32) [(.int (nar .boolean (own_bit p2 (0 : Int32)))), (.int (nar .boolean (own_bit p2 (1 : Int32)))), (.int (nar .boolean (own_bit p2 (2 : Int32))))] (.int (0 : Int32)) := Arv.set Ar46_25 qa46_25 Sa46_25 Na46_25 Ha46_25 Ga46_25 (fits_nar_bool _) W26 2 rfl (Nat.le_of_ble_eq_true rfl)
    have N26 := Fr.snoc X26 N24 g_b17
    have Z26 : n0 ≤ h26.size := Nat.le_trans Z23 (Keep.of_wr W26).1
    obtain ⟨j111_S0k3, ej111_S0k3⟩ : ∃ z : Int32, z = (if (p2 &&& (((1 : Int32) <<< ((3 : Int32) &&& 31)) - (1 : Int32))) = (0 : Int32) then (0 : Int32) else (1 : Int32)) := ⟨_, rfl⟩
    have sg111k3 : ∀ t, Steps p.tables e below (T26.setTop (mkF m 121 #[.val (.int p1), .val (.int p2), .val (.int (3 : Int32)), .val (.ref b17), .val (.int (p2 &&& (((1 : Int32) <<< ((3 : Int32) &&& 31)) - (1 : Int32)))), .unset] [(.int j111_S0k3)])) t → Steps p.tables e below (T26.setTop (mkF m 111 #[.val (.int p1), .val (.int p2), .val (.int (3 : Int32)), .val (.ref b17), .val (.int (p2 &&& (((1 : Int32) <<< ((3 : Int32) &&& 31)) - (1 : Int32)))), .unset] [])) t := fun t kt => by
      show Steps p.tables e below (T26.setTop (mkF m 111 #[.val (.int p1), .val (.int p2), .val (.int (3 : Int32)), .val (.ref b17), .val (.int (p2 &&& (((1 : Int32) <<< ((3 : Int32) &&& 31)) - (1 : Int32)))), .unset] [])) _
      refine XS.iload X26.here hx rfl (hb hby at_111) rfl ?_
      by_cases hc113 : (p2 &&& (((1 : Int32) <<< ((3 : Int32) &&& 31)) - (1 : Int32))) = (0 : Int32)
      · have qj111_S0k3 : j111_S0k3 = (0 : Int32) := by rw [ej111_S0k3, if_pos hc113]
        rw [qj111_S0k3] at kt
        show Steps p.tables e below (T26.setTop (mkF m 113 #[.val (.int p1), .val (.int p2), .val (.int (3 : Int32)), .val (.ref b17), .val (.int (p2 &&& (((1 : Int32) <<< ((3 : Int32) &&& 31)) - (1 : Int32)))), .unset] [(.int (p2 &&& (((1 : Int32) <<< ((3 : Int32) &&& 31)) - (1 : Int32))))])) _
        refine XS.ifYes X26.here hx rfl (pc0 := 113) (pc' := 120) rfl (hb hby at_113) rfl ((if0 _ _).trans (teq hc113).1) (by decide) (by decide) ?_
        show Steps p.tables e below (T26.setTop (mkF m 120 #[.val (.int p1), .val (.int p2), .val (.int (3 : Int32)), .val (.ref b17), .val (.int (p2 &&& (((1 : Int32) <<< ((3 : Int32) &&& 31)) - (1 : Int32)))), .unset] [])) _
        refine XS.iconst X26.here hx rfl (hb hby at_120) ?_
        exact kt
      · have qj111_S0k3 : j111_S0k3 = (1 : Int32) := by rw [ej111_S0k3, if_neg hc113]
        rw [qj111_S0k3] at kt
        show Steps p.tables e below (T26.setTop (mkF m 113 #[.val (.int p1), .val (.int p2), .val (.int (3 : Int32)), .val (.ref b17), .val (.int (p2 &&& (((1 : Int32) <<< ((3 : Int32) &&& 31)) - (1 : Int32)))), .unset] [(.int (p2 &&& (((1 : Int32) <<< ((3 : Int32) &&& 31)) - (1 : Int32))))])) _
        refine XS.ifNo X26.here hx rfl (hb hby at_113) rfl ((if0 _ _).trans (feq hc113).1) ?_
        show Steps p.tables e below (T26.setTop (mkF m 116 #[.val (.int p1), .val (.int p2), .val (.int (3 : Int32)), .val (.ref b17), .val (.int (p2 &&& (((1 : Int32) <<< ((3 : Int32) &&& 31)) - (1 : Int32)))), .unset] [])) _
        refine XS.iconst X26.here hx rfl (hb hby at_116) ?_
        show Steps p.tables e below (T26.setTop (mkF m 117 #[.val (.int p1), .val (.int p2), .val (.int (3 : Int32)), .val (.ref b17), .val (.int (p2 &&& (((1 : Int32) <<< ((3 : Int32) &&& 31)) - (1 : Int32)))), .unset] [(.int (1 : Int32))])) _
        refine XS.goto X26.here hx rfl (pc0 := 117) (pc' := 121) rfl (hb hby at_117) (by decide) (by decide) ?_
        exact kt
    obtain ⟨_, _, ⟨T27, L27, k27, n27⟩, -, X27, ⟨Lc27, hQ27, l27, y27, z27⟩, st27⟩ := Jvm.LawKit.callS X26 hx (y := (⟨"com/example/braided_tour/braidedtour/choice/Logit", "anyAvailable", "([Z)Z"⟩ : MethodName)) hown (mvT hZ (hw _ (List.mem_of_getElem? (i := 1) rfl))) (mvT hZ (hw _ (List.mem_of_getElem? (i := 2) rfl))) (mvT hZ (hw _ (List.mem_of_getElem? (i := 3) rfl))) (mvT hZ (hw _ (List.mem_of_getElem? (i := 4) rfl))) (by decide) (backOf (W := 0) (rm1n3 l Z a0 hw [] b17 k17 (nar .boolean (own_bit p2 (0 : Int32))) (nar .boolean (own_bit p2 (1 : Int32))) (nar .boolean (own_bit p2 (2 : Int32))) h26 n0 Z26 V26) hZ (hw _ (List.mem_of_getElem? (i := 4) rfl)) (hw _ (List.mem_of_getElem? (i := 3) rfl)) (by decide) (by decide)) (g := (mkF m 124 #[.val (.int p1), .val (.int p2), .val (.int (3 : Int32)), .val (.ref b17), .val (.int (p2 &&& (((1 : Int32) <<< ((3 : Int32) &&& 31)) - (1 : Int32)))), .val (.int j111_S0k3)] [(.ref b17)])) rfl (by rw [hml]; rfl) (argsL := [(.ref b17)]) (rest := []) (lenOf pd0_0 rfl) rfl (by show 2 * 0 + _ ≤ _; exact Nat.le_of_eq rfl) (hb hby at_124) (fun _ _ => ⟨rfl, e26, (by decide : 1 + 0 ≤ _), (by decide : 3 + 0 ≤ _)⟩)
    dsimp only [Pt.U, Pt.locs, Pt.cells, Pt.slots] at X27 l27 y27 z27 st27 hQ27
    subst l27 y27 z27
    obtain ⟨rfl, N27q, e27⟩ := hQ27
    have N27 := Fr.app N26 N27q
    obtain ⟨fs, hr, hrun, hended, hW, hsame⟩ := X27.leave (v := some (.int (1 : Int32))) (fun h => by rw [Bd.returns] at h; cases h)
    refine ⟨_, _, c1 _ ?_, hrun, hended, _, _, rfl, ?_, ⟨_, rfl⟩, hW, hsame.mono (by decide) (by decide)⟩
    · show Steps p.tables e below (s₁.setTop (mkF m 5 #[.val (.int p1), .val (.int p2), .val (.int (3 : Int32)), .unset, .unset, .unset] [])) _
      refine XS.iloadN X0.here hx rfl (hb hby at_5) rfl ?_
      show Steps p.tables e below (s₁.setTop (mkF m 6 #[.val (.int p1), .val (.int p2), .val (.int (3 : Int32)), .unset, .unset, .unset] [(.int (3 : Int32))])) _
      refine st17 _ ?_
      show Steps p.tables e below (T17.setTop (mkF m 8 #[.val (.int p1), .val (.int p2), .val (.int (3 : Int32)), .unset, .unset, .unset] [(.ref b17)])) _
      refine XS.astoreN X17.here hx rfl (hb hby at_8) rfl rfl (l' := #[.val (.int p1), .val (.int p2), .val (.int (3 : Int32)), .val (.ref b17), .unset, .unset]) rfl ?_
      show Steps p.tables e below (T17.setTop (mkF m 9 #[.val (.int p1), .val (.int p2), .val (.int (3 : Int32)), .val (.ref b17), .unset, .unset] [])) _
      refine XS.iloadN X17.here hx rfl (hb hby at_9) rfl ?_
      show Steps p.tables e below (T17.setTop (mkF m 10 #[.val (.int p1), .val (.int p2), .val (.int (3 : Int32)), .val (.ref b17), .unset, .unset] [(.int (3 : Int32))])) _
      refine XS.ifNo X17.here hx rfl (hb hby at_10) rfl ((if0 _ _).trans (tlt (by decide)).2.2.2) ?_
      show Steps p.tables e below (T17.setTop (mkF m 13 #[.val (.int p1), .val (.int p2), .val (.int (3 : Int32)), .val (.ref b17), .unset, .unset] [])) _
      refine XS.aloadN X17.here hx rfl (hb hby at_13) rfl rfl ?_
      show Steps p.tables e below (T17.setTop (mkF m 14 #[.val (.int p1), .val (.int p2), .val (.int (3 : Int32)), .val (.ref b17), .unset, .unset] [(.ref b17)])) _
      refine XS.iconst X17.here hx rfl (hb hby at_14) ?_
      show Steps p.tables e below (T17.setTop (mkF m 15 #[.val (.int p1), .val (.int p2), .val (.int (3 : Int32)), .val (.ref b17), .unset, .unset] [(.int (0 : Int32)), (.ref b17)])) _
      refine XS.iloadN X17.here hx rfl (hb hby at_15) rfl ?_
      show Steps p.tables e below (T17.setTop (mkF m 16 #[.val (.int p1), .val (.int p2), .val (.int (3 : Int32)), .val (.ref b17), .unset, .unset] [(.int p2), (.int (0 : Int32)), (.ref b17)])) _
      refine XS.iconst X17.here hx rfl (hb hby at_16) ?_
      show Steps p.tables e below (T17.setTop (mkF m 17 #[.val (.int p1), .val (.int p2), .val (.int (3 : Int32)), .val (.ref b17), .unset, .unset] [(.int (0 : Int32)), (.int p2), (.int (0 : Int32)), (.ref b17)])) _
      refine st18 _ ?_
      show Steps p.tables e below (T18.setTop (mkF m 20 #[.val (.int p1), .val (.int p2), .val (.int (3 : Int32)), .val (.ref b17), .unset, .unset] [(.int (own_bit p2 (0 : Int32))), (.int (0 : Int32)), (.ref b17)])) _
      refine st20 _ ?_
      show Steps p.tables e below (T20.setTop (mkF m 21 #[.val (.int p1), .val (.int p2), .val (.int (3 : Int32)), .val (.ref b17), .unset, .unset] [])) _
      refine XS.iloadN X20.here hx rfl (hb hby at_21) rfl ?_
      show Steps p.tables e below (T20.setTop (mkF m 22 #[.val (.int p1), .val (.int p2), .val (.int (3 : Int32)), .val (.ref b17), .unset, .unset] [(.int (3 : Int32))])) _
      refine XS.iconst X20.here hx rfl (hb hby at_22) ?_
      show Steps p.tables e below (T20.setTop (mkF m 23 #[.val (.int p1), .val (.int p2), .val (.int (3 : Int32)), .val (.ref b17), .unset, .unset] [(.int (1 : Int32)), (.int (3 : Int32))])) _
      refine XS.icmpNo X20.here hx rfl (hb hby at_23) rfl (tlt (by decide)).2.2.2 ?_
      show Steps p.tables e below (T20.setTop (mkF m 26 #[.val (.int p1), .val (.int p2), .val (.int (3 : Int32)), .val (.ref b17), .unset, .unset] [])) _
      refine XS.aloadN X20.here hx rfl (hb hby at_26) rfl rfl ?_
      show Steps p.tables e below (T20.setTop (mkF m 27 #[.val (.int p1), .val (.int p2), .val (.int (3 : Int32)), .val (.ref b17), .unset, .unset] [(.ref b17)])) _
      refine XS.iconst X20.here hx rfl (hb hby at_27) ?_
      show Steps p.tables e below (T20.setTop (mkF m 28 #[.val (.int p1), .val (.int p2), .val (.int (3 : Int32)), .val (.ref b17), .unset, .unset] [(.int (1 : Int32)), (.ref b17)])) _
      refine XS.iloadN X20.here hx rfl (hb hby at_28) rfl ?_
      show Steps p.tables e below (T20.setTop (mkF m 29 #[.val (.int p1), .val (.int p2), .val (.int (3 : Int32)), .val (.ref b17), .unset, .unset] [(.int p2), (.int (1 : Int32)), (.ref b17)])) _
      refine XS.iconst X20.here hx rfl (hb hby at_29) ?_
      show Steps p.tables e below (T20.setTop (mkF m 30 #[.val (.int p1), .val (.int p2), .val (.int (3 : Int32)), .val (.ref b17), .unset, .unset] [(.int (1 : Int32)), (.int p2), (.int (1 : Int32)), (.ref b17)])) _
      refine st21 _ ?_
      show Steps p.tables e below (T21.setTop (mkF m 33 #[.val (.int p1), .val (.int p2), .val (.int (3 : Int32)), .val (.ref b17), .unset, .unset] [(.int (own_bit p2 (1 : Int32))), (.int (1 : Int32)), (.ref b17)])) _
      refine st23 _ ?_
      show Steps p.tables e below (T23.setTop (mkF m 34 #[.val (.int p1), .val (.int p2), .val (.int (3 : Int32)), .val (.ref b17), .unset, .unset] [])) _
      refine XS.iloadN X23.here hx rfl (hb hby at_34) rfl ?_
      show Steps p.tables e below (T23.setTop (mkF m 35 #[.val (.int p1), .val (.int p2), .val (.int (3 : Int32)), .val (.ref b17), .unset, .unset] [(.int (3 : Int32))])) _
      refine XS.iconst X23.here hx rfl (hb hby at_35) ?_
      show Steps p.tables e below (T23.setTop (mkF m 36 #[.val (.int p1), .val (.int p2), .val (.int (3 : Int32)), .val (.ref b17), .unset, .unset] [(.int (2 : Int32)), (.int (3 : Int32))])) _
      refine XS.icmpNo X23.here hx rfl (hb hby at_36) rfl (tlt (by decide)).2.2.2 ?_
      show Steps p.tables e below (T23.setTop (mkF m 39 #[.val (.int p1), .val (.int p2), .val (.int (3 : Int32)), .val (.ref b17), .unset, .unset] [])) _
      refine XS.aloadN X23.here hx rfl (hb hby at_39) rfl rfl ?_
      show Steps p.tables e below (T23.setTop (mkF m 40 #[.val (.int p1), .val (.int p2), .val (.int (3 : Int32)), .val (.ref b17), .unset, .unset] [(.ref b17)])) _
      refine XS.iconst X23.here hx rfl (hb hby at_40) ?_
      show Steps p.tables e below (T23.setTop (mkF m 41 #[.val (.int p1), .val (.int p2), .val (.int (3 : Int32)), .val (.ref b17), .unset, .unset] [(.int (2 : Int32)), (.ref b17)])) _
      refine XS.iloadN X23.here hx rfl (hb hby at_41) rfl ?_
      show Steps p.tables e below (T23.setTop (mkF m 42 #[.val (.int p1), .val (.int p2), .val (.int (3 : Int32)), .val (.ref b17), .unset, .unset] [(.int p2), (.int (2 : Int32)), (.ref b17)])) _
      refine XS.iconst X23.here hx rfl (hb hby at_42) ?_
      show Steps p.tables e below (T23.setTop (mkF m 43 #[.val (.int p1), .val (.int p2), .val (.int (3 : Int32)), .val (.ref b17), .unset, .unset] [(.int (2 : Int32)), (.int p2), (.int (2 : Int32)), (.ref b17)])) _
      refine st24 _ ?_
      show Steps p.tables e below (T24.setTop (mkF m 46 #[.val (.int p1), .val (.int p2), .val (.int (3 : Int32)), .val (.ref b17), .unset, .unset] [(.int (own_bit p2 (2 : Int32))), (.int (2 : Int32)), (.ref b17)])) _
      refine st26 _ ?_
      show Steps p.tables e below (T26.setTop (mkF m 47 #[.val (.int p1), .val (.int p2), .val (.int (3 : Int32)), .val (.ref b17), .unset, .unset] [])) _
      refine XS.iloadN X26.here hx rfl (hb hby at_47) rfl ?_
      show Steps p.tables e below (T26.setTop (mkF m 48 #[.val (.int p1), .val (.int p2), .val (.int (3 : Int32)), .val (.ref b17), .unset, .unset] [(.int (3 : Int32))])) _
      refine XS.iconst X26.here hx rfl (hb hby at_48) ?_
      show Steps p.tables e below (T26.setTop (mkF m 49 #[.val (.int p1), .val (.int p2), .val (.int (3 : Int32)), .val (.ref b17), .unset, .unset] [(.int (3 : Int32)), (.int (3 : Int32))])) _
      refine XS.icmpYes X26.here hx rfl (pc0 := 49) (pc' := 60) rfl (hb hby at_49) rfl (flt (by decide)).2.2.2 (by decide) (by decide) ?_
      show Steps p.tables e below (T26.setTop (mkF m 60 #[.val (.int p1), .val (.int p2), .val (.int (3 : Int32)), .val (.ref b17), .unset, .unset] [])) _
      refine XS.iloadN X26.here hx rfl (hb hby at_60) rfl ?_
      show Steps p.tables e below (T26.setTop (mkF m 61 #[.val (.int p1), .val (.int p2), .val (.int (3 : Int32)), .val (.ref b17), .unset, .unset] [(.int (3 : Int32))])) _
      refine XS.iconst X26.here hx rfl (hb hby at_61) ?_
      show Steps p.tables e below (T26.setTop (mkF m 62 #[.val (.int p1), .val (.int p2), .val (.int (3 : Int32)), .val (.ref b17), .unset, .unset] [(.int (4 : Int32)), (.int (3 : Int32))])) _
      refine XS.icmpYes X26.here hx rfl (pc0 := 62) (pc' := 73) rfl (hb hby at_62) rfl (flt (by decide)).2.2.2 (by decide) (by decide) ?_
      show Steps p.tables e below (T26.setTop (mkF m 73 #[.val (.int p1), .val (.int p2), .val (.int (3 : Int32)), .val (.ref b17), .unset, .unset] [])) _
      refine XS.iloadN X26.here hx rfl (hb hby at_73) rfl ?_
      show Steps p.tables e below (T26.setTop (mkF m 74 #[.val (.int p1), .val (.int p2), .val (.int (3 : Int32)), .val (.ref b17), .unset, .unset] [(.int (3 : Int32))])) _
      refine XS.iconst X26.here hx rfl (hb hby at_74) ?_
      show Steps p.tables e below (T26.setTop (mkF m 75 #[.val (.int p1), .val (.int p2), .val (.int (3 : Int32)), .val (.ref b17), .unset, .unset] [(.int (5 : Int32)), (.int (3 : Int32))])) _
      refine XS.icmpYes X26.here hx rfl (pc0 := 75) (pc' := 86) rfl (hb hby at_75) rfl (flt (by decide)).2.2.2 (by decide) (by decide) ?_
      show Steps p.tables e below (T26.setTop (mkF m 86 #[.val (.int p1), .val (.int p2), .val (.int (3 : Int32)), .val (.ref b17), .unset, .unset] [])) _
      refine XS.iloadN X26.here hx rfl (hb hby at_86) rfl ?_
      show Steps p.tables e below (T26.setTop (mkF m 87 #[.val (.int p1), .val (.int p2), .val (.int (3 : Int32)), .val (.ref b17), .unset, .unset] [(.int (3 : Int32))])) _
      refine XS.bipush X26.here hx rfl (hb hby at_87) ?_
      show Steps p.tables e below (T26.setTop (mkF m 89 #[.val (.int p1), .val (.int p2), .val (.int (3 : Int32)), .val (.ref b17), .unset, .unset] [(.int (6 : Int32)), (.int (3 : Int32))])) _
      refine XS.icmpYes X26.here hx rfl (pc0 := 89) (pc' := 102) rfl (hb hby at_89) rfl (flt (by decide)).2.2.2 (by decide) (by decide) ?_
      show Steps p.tables e below (T26.setTop (mkF m 102 #[.val (.int p1), .val (.int p2), .val (.int (3 : Int32)), .val (.ref b17), .unset, .unset] [])) _
      refine XS.iloadN X26.here hx rfl (hb hby at_102) rfl ?_
      show Steps p.tables e below (T26.setTop (mkF m 103 #[.val (.int p1), .val (.int p2), .val (.int (3 : Int32)), .val (.ref b17), .unset, .unset] [(.int p2)])) _
      refine XS.iconst X26.here hx rfl (hb hby at_103) ?_
      show Steps p.tables e below (T26.setTop (mkF m 104 #[.val (.int p1), .val (.int p2), .val (.int (3 : Int32)), .val (.ref b17), .unset, .unset] [(.int (1 : Int32)), (.int p2)])) _
      refine XS.iloadN X26.here hx rfl (hb hby at_104) rfl ?_
      show Steps p.tables e below (T26.setTop (mkF m 105 #[.val (.int p1), .val (.int p2), .val (.int (3 : Int32)), .val (.ref b17), .unset, .unset] [(.int (3 : Int32)), (.int (1 : Int32)), (.int p2)])) _
      refine XS.ishl X26.here hx rfl (hb hby at_105) rfl ?_
      show Steps p.tables e below (T26.setTop (mkF m 106 #[.val (.int p1), .val (.int p2), .val (.int (3 : Int32)), .val (.ref b17), .unset, .unset] [(.int ((1 : Int32) <<< ((3 : Int32) &&& 31))), (.int p2)])) _
      refine XS.iconst X26.here hx rfl (hb hby at_106) ?_
      show Steps p.tables e below (T26.setTop (mkF m 107 #[.val (.int p1), .val (.int p2), .val (.int (3 : Int32)), .val (.ref b17), .unset, .unset] [(.int (1 : Int32)), (.int ((1 : Int32) <<< ((3 : Int32) &&& 31))), (.int p2)])) _
      refine XS.isub X26.here hx rfl (hb hby at_107) rfl ?_
      show Steps p.tables e below (T26.setTop (mkF m 108 #[.val (.int p1), .val (.int p2), .val (.int (3 : Int32)), .val (.ref b17), .unset, .unset] [(.int (((1 : Int32) <<< ((3 : Int32) &&& 31)) - (1 : Int32))), (.int p2)])) _
      refine XS.iand X26.here hx rfl (hb hby at_108) rfl ?_
      show Steps p.tables e below (T26.setTop (mkF m 109 #[.val (.int p1), .val (.int p2), .val (.int (3 : Int32)), .val (.ref b17), .unset, .unset] [(.int (p2 &&& (((1 : Int32) <<< ((3 : Int32) &&& 31)) - (1 : Int32))))])) _
      refine XS.istore X26.here hx rfl (hb hby at_109) rfl (l' := #[.val (.int p1), .val (.int p2), .val (.int (3 : Int32)), .val (.ref b17), .val (.int (p2 &&& (((1 : Int32) <<< ((3 : Int32) &&& 31)) - (1 : Int32)))), .unset]) rfl ?_
      show Steps p.tables e below (T26.setTop (mkF m 111 #[.val (.int p1), .val (.int p2), .val (.int (3 : Int32)), .val (.ref b17), .val (.int (p2 &&& (((1 : Int32) <<< ((3 : Int32) &&& 31)) - (1 : Int32)))), .unset] [])) _
      refine sg111k3 _ ?_
      show Steps p.tables e below (T26.setTop (mkF m 121 #[.val (.int p1), .val (.int p2), .val (.int (3 : Int32)), .val (.ref b17), .val (.int (p2 &&& (((1 : Int32) <<< ((3 : Int32) &&& 31)) - (1 : Int32)))), .unset] [(.int j111_S0k3)])) _
      refine XS.istore X26.here hx rfl (hb hby at_121) rfl (l' := #[.val (.int p1), .val (.int p2), .val (.int (3 : Int32)), .val (.ref b17), .val (.int (p2 &&& (((1 : Int32) <<< ((3 : Int32) &&& 31)) - (1 : Int32)))), .val (.int j111_S0k3)]) rfl ?_
      show Steps p.tables e below (T26.setTop (mkF m 123 #[.val (.int p1), .val (.int p2), .val (.int (3 : Int32)), .val (.ref b17), .val (.int (p2 &&& (((1 : Int32) <<< ((3 : Int32) &&& 31)) - (1 : Int32)))), .val (.int j111_S0k3)] [])) _
      refine XS.aloadN X26.here hx rfl (hb hby at_123) rfl rfl ?_
      show Steps p.tables e below (T26.setTop (mkF m 124 #[.val (.int p1), .val (.int p2), .val (.int (3 : Int32)), .val (.ref b17), .val (.int (p2 &&& (((1 : Int32) <<< ((3 : Int32) &&& 31)) - (1 : Int32)))), .val (.int j111_S0k3)] [(.ref b17)])) _
      refine st27 _ ?_
      show Steps p.tables e below (T27.setTop (mkF m 127 #[.val (.int p1), .val (.int p2), .val (.int (3 : Int32)), .val (.ref b17), .val (.int (p2 &&& (((1 : Int32) <<< ((3 : Int32) &&& 31)) - (1 : Int32)))), .val (.int j111_S0k3)] [(.int (own_any3 (nar .boolean (own_bit p2 (0 : Int32))) (nar .boolean (own_bit p2 (1 : Int32))) (nar .boolean (own_bit p2 (2 : Int32)))))])) _
      refine XS.iload X27.here hx rfl (hb hby at_127) rfl ?_
      show Steps p.tables e below (T27.setTop (mkF m 129 #[.val (.int p1), .val (.int p2), .val (.int (3 : Int32)), .val (.ref b17), .val (.int (p2 &&& (((1 : Int32) <<< ((3 : Int32) &&& 31)) - (1 : Int32)))), .val (.int j111_S0k3)] [(.int j111_S0k3), (.int (own_any3 (nar .boolean (own_bit p2 (0 : Int32))) (nar .boolean (own_bit p2 (1 : Int32))) (nar .boolean (own_bit p2 (2 : Int32)))))])) _
      refine XS.icmpNo X27.here hx rfl (hb hby at_129) rfl (teq ((own_all3 p2).trans ej111_S0k3.symm)).2 ?_
      show Steps p.tables e below (T27.setTop (mkF m 132 #[.val (.int p1), .val (.int p2), .val (.int (3 : Int32)), .val (.ref b17), .val (.int (p2 &&& (((1 : Int32) <<< ((3 : Int32) &&& 31)) - (1 : Int32)))), .val (.int j111_S0k3)] [])) _
      refine XS.iconst X27.here hx rfl (hb hby at_132) ?_
      show Steps p.tables e below (T27.setTop (mkF m 133 #[.val (.int p1), .val (.int p2), .val (.int (3 : Int32)), .val (.ref b17), .val (.int (p2 &&& (((1 : Int32) <<< ((3 : Int32) &&& 31)) - (1 : Int32)))), .val (.int j111_S0k3)] [(.int (1 : Int32))])) _
      refine XS.goto X27.here hx rfl (pc0 := 133) (pc' := 137) rfl (hb hby at_133) (by decide) (by decide) ?_
      show Steps p.tables e below (T27.setTop (mkF m 137 #[.val (.int p1), .val (.int p2), .val (.int (3 : Int32)), .val (.ref b17), .val (.int (p2 &&& (((1 : Int32) <<< ((3 : Int32) &&& 31)) - (1 : Int32)))), .val (.int j111_S0k3)] [(.int (1 : Int32))])) _
      exact retN X27 hx (t := .boolean) Bd.returns (by simp) (hb hby at_137) hr
    · show Q0 Z p1 p2 h0 n0 _ T27.heap _
      rw [e27]
      exact ⟨rfl, N27⟩
  · rw [hk] at c1
    obtain ⟨T28, h28, k28, X28, e28, E28, A28, st28⟩ := newP X0 hx hZ (hw _ (List.mem_of_getElem? (i := 0) rfl)) e0 (g := (mkF m 6 #[.val (.int p1), .val (.int p2), .val (.int (4 : Int32)), .unset, .unset, .unset] [(.int (4 : Int32))])) rfl (hb hby at_6) rfl (by decide) (cap := 4) (by decide) (by decide) (by decide) (by decide)
    obtain ⟨b28, g28⟩ : ∃ z, z = h0.size := ⟨_, rfl⟩
    rw [← g28] at A28 st28
    have g_b28 : n0 ≤ b28 := Nat.le_trans Z0 (Nat.le_of_eq g28.symm)
    have Z28 : n0 ≤ h28.size := Nat.le_trans Z0 E28.1
    have V28 : Arv Z h28 b28 k28 .boolean (4 : Int32) [(.int (0 : Int32)), (.int (0 : Int32)), (.int (0 : Int32)), (.int (0 : Int32))] (.int (0 : Int32)) := (Arv.new A28 (by decide)).pad (pad_rep [] (.int (0 : Int32)) 4)
    obtain ⟨_, _, ⟨T29, L29, k29, n29⟩, -, X29, ⟨Lc29, hQ29, l29, y29, z29⟩, st29⟩ := Jvm.LawKit.callS X28 hx (y := (⟨"com/example/braided_tour/braidedtour/choice/LogitAnyAvailablePinLaw", "bit", "(II)Z"⟩ : MethodName)) hown (mvT hZ (hw _ (List.mem_of_getElem? (i := 5) rfl))) (mvT hZ (hw _ (List.mem_of_getElem? (i := 6) rfl))) (mvT hZ (hw _ (List.mem_of_getElem? (i := 7) rfl))) (mvT hZ (hw _ (List.mem_of_getElem? (i := 8) rfl))) (by decide) (backOf (W := 2) (rm2 l Z a0 hw [] p2 (0 : Int32) h28 n0 Z28 ) hZ (hw _ (List.mem_of_getElem? (i := 8) rfl)) (hw _ (List.mem_of_getElem? (i := 7) rfl)) (by decide) (by decide)) (g := (mkF m 17 #[.val (.int p1), .val (.int p2), .val (.int (4 : Int32)), .val (.ref b28), .unset, .unset] [(.int (0 : Int32)), (.int p2), (.int (0 : Int32)), (.ref b28)])) rfl (by rw [hml]; rfl) (argsL := [(.int p2), (.int (0 : Int32))]) (rest := [(.int (0 : Int32)), (.ref b28)]) (lenOf pd0_1 rfl) rfl (by show 2 * 0 + _ ≤ _; exact Nat.le_of_eq rfl) (hb hby at_17) (fun _ _ => ⟨rfl, e28, (by decide : 1 + 0 ≤ _), (by decide : 4 + 0 ≤ _)⟩)
    dsimp only [Pt.U, Pt.locs, Pt.cells, Pt.slots] at X29 l29 y29 z29 st29 hQ29
    subst l29 y29 z29
    obtain ⟨rfl, N29q, e29⟩ := hQ29
    have N29 := Fr.app N0 N29q
    have cp20_30 := V28
    obtain ⟨cl20_30, Ar20_30, qa20_30, Sa20_30, Na20_30, Ha20_30, Ga20_30⟩ := cp20_30
    have hin20_30 : ¬ ((0 : Int32) < 0 ∨ cl20_30.slots.size ≤ ((0 : Int32)).toNatClampNeg) := inb_of Sa20_30 ⟨by decide, by decide⟩
    obtain ⟨T31, h31, X31, e31, W31, st31⟩ := stZ X29 hx hZ e29 Ar20_30 (j := (0 : Int32)) hin20_30 (g := (mkF m 20 #[.val (.int p1), .val (.int p2), .val (.int (4 : Int32)), .val (.ref b28), .unset, .unset] [(.int (own_bit p2 (0 : Int32))), (.int (0 : Int32)), (.ref b28)])) rfl rfl (hb hby at_20)
    have V31 : Arv Z h31 b28 k28 .boolean (4 : Int32) [(.int (nar .boolean (own_bit p2 (0 : Int32)))), (.int (0 : Int32)), (.int (0 : Int32)), (.int (0 : Int32))] (.int (0 : Int32)) := Arv.set Ar20_30 qa20_30 Sa20_30 Na20_30 Ha20_30 Ga20_30 (fits_nar_bool _) W31 0 rfl (Nat.le_of_ble_eq_true rfl)
    have N31 := Fr.snoc X31 N29 g_b28
    have Z31 : n0 ≤ h31.size := Nat.le_trans Z28 (Keep.of_wr W31).1
    obtain ⟨_, _, ⟨T32, L32, k32, n32⟩, -, X32, ⟨Lc32, hQ32, l32, y32, z32⟩, st32⟩ := Jvm.LawKit.callS X31 hx (y := (⟨"com/example/braided_tour/braidedtour/choice/LogitAnyAvailablePinLaw", "bit", "(II)Z"⟩ : MethodName)) hown (mvT hZ (hw _ (List.mem_of_getElem? (i := 5) rfl))) (mvT hZ (hw _ (List.mem_of_getElem? (i := 6) rfl))) (mvT hZ (hw _ (List.mem_of_getElem? (i := 7) rfl))) (mvT hZ (hw _ (List.mem_of_getElem? (i := 8) rfl))) (by decide) (backOf (W := 2) (rm2 l Z a0 hw [] p2 (1 : Int32) h31 n0 Z31 ) hZ (hw _ (List.mem_of_getElem? (i := 8) rfl)) (hw _ (List.mem_of_getElem? (i := 7) rfl)) (by decide) (by decide)) (g := (mkF m 30 #[.val (.int p1), .val (.int p2), .val (.int (4 : Int32)), .val (.ref b28), .unset, .unset] [(.int (1 : Int32)), (.int p2), (.int (1 : Int32)), (.ref b28)])) rfl (by rw [hml]; rfl) (argsL := [(.int p2), (.int (1 : Int32))]) (rest := [(.int (1 : Int32)), (.ref b28)]) (lenOf pd0_1 rfl) rfl (by show 2 * 0 + _ ≤ _; exact Nat.le_of_eq rfl) (hb hby at_30) (fun _ _ => ⟨rfl, e31, (by decide : 1 + 0 ≤ _), (by decide : 4 + 0 ≤ _)⟩)
    dsimp only [Pt.U, Pt.locs, Pt.cells, Pt.slots] at X32 l32 y32 z32 st32 hQ32
    subst l32 y32 z32
    obtain ⟨rfl, N32q, e32⟩ := hQ32
    have N32 := Fr.app N31 N32q
    have cp33_33 := V31
    obtain ⟨cl33_33, Ar33_33, qa33_33, Sa33_33, Na33_33, Ha33_33, Ga33_33⟩ := cp33_33
    have hin33_33 : ¬ ((1 : Int32) < 0 ∨ cl33_33.slots.size ≤ ((1 : Int32)).toNatClampNeg) := inb_of Sa33_33 ⟨by decide, by decide⟩
    obtain ⟨T34, h34, X34, e34, W34, st34⟩ := stZ X32 hx hZ e32 Ar33_33 (j := (1 : Int32)) hin33_33 (g := (mkF m 33 #[.val (.int p1), .val (.int p2), .val (.int (4 : Int32)), .val (.ref b28), .unset, .unset] [(.int (own_bit p2 (1 : Int32))), (.int (1 : Int32)), (.ref b28)])) rfl rfl (hb hby at_33)
    have V34 : Arv Z h34 b28 k28 .boolean (4 : Int32) [(.int (nar .boolean (own_bit p2 (0 : Int32)))), (.int (nar .boolean (own_bit p2 (1 : Int32)))), (.int (0 : Int32)), (.int (0 : Int32))] (.int (0 : Int32)) := Arv.set Ar33_33 qa33_33 Sa33_33 Na33_33 Ha33_33 Ga33_33 (fits_nar_bool _) W34 1 rfl (Nat.le_of_ble_eq_true rfl)
    have N34 := Fr.snoc X34 N32 g_b28
    have Z34 : n0 ≤ h34.size := Nat.le_trans Z31 (Keep.of_wr W34).1
    obtain ⟨_, _, ⟨T35, L35, k35, n35⟩, -, X35, ⟨Lc35, hQ35, l35, y35, z35⟩, st35⟩ := Jvm.LawKit.callS X34 hx (y := (⟨"com/example/braided_tour/braidedtour/choice/LogitAnyAvailablePinLaw", "bit", "(II)Z"⟩ : MethodName)) hown (mvT hZ (hw _ (List.mem_of_getElem? (i := 5) rfl))) (mvT hZ (hw _ (List.mem_of_getElem? (i := 6) rfl))) (mvT hZ (hw _ (List.mem_of_getElem? (i := 7) rfl))) (mvT hZ (hw _ (List.mem_of_getElem? (i := 8) rfl))) (by decide) (backOf (W := 2) (rm2 l Z a0 hw [] p2 (2 : Int32) h34 n0 Z34 ) hZ (hw _ (List.mem_of_getElem? (i := 8) rfl)) (hw _ (List.mem_of_getElem? (i := 7) rfl)) (by decide) (by decide)) (g := (mkF m 43 #[.val (.int p1), .val (.int p2), .val (.int (4 : Int32)), .val (.ref b28), .unset, .unset] [(.int (2 : Int32)), (.int p2), (.int (2 : Int32)), (.ref b28)])) rfl (by rw [hml]; rfl) (argsL := [(.int p2), (.int (2 : Int32))]) (rest := [(.int (2 : Int32)), (.ref b28)]) (lenOf pd0_1 rfl) rfl (by show 2 * 0 + _ ≤ _; exact Nat.le_of_eq rfl) (hb hby at_43) (fun _ _ => ⟨rfl, e34, (by decide : 1 + 0 ≤ _), (by decide : 4 + 0 ≤ _)⟩)
    dsimp only [Pt.U, Pt.locs, Pt.cells, Pt.slots] at X35 l35 y35 z35 st35 hQ35
    subst l35 y35 z35
    obtain ⟨rfl, N35q, e35⟩ := hQ35
    have N35 := Fr.app N34 N35q
    have cp46_36 := V34
    obtain ⟨cl46_36, Ar46_36, qa46_36, Sa46_36, Na46_36, Ha46_36, Ga46_36⟩ := cp46_36
    have hin46_36 : ¬ ((2 : Int32) < 0 ∨ cl46_36.slots.size ≤ ((2 : Int32)).toNatClampNeg) := inb_of Sa46_36 ⟨by decide, by decide⟩
    obtain ⟨T37, h37, X37, e37, W37, st37⟩ := stZ X35 hx hZ e35 Ar46_36 (j := (2 : Int32)) hin46_36 (g := (mkF m 46 #[.val (.int p1), .val (.int p2), .val (.int (4 : Int32)), .val (.ref b28), .unset, .unset] [(.int (own_bit p2 (2 : Int32))), (.int (2 : Int32)), (.ref b28)])) rfl rfl (hb hby at_46)
    have V37 : Arv Z h37 b28 k28 .boolean (4 : Int32) [(.int (nar .boolean (own_bit p2 (0 : Int32)))), (.int (nar .boolean (own_bit p2 (1 : Int32)))), (.int (nar .boolean (own_bit p2 (2 : Int32)))), (.int (0 : Int32))] (.int (0 : Int32)) := Arv.set Ar46_36 qa46_36 Sa46_36 Na46_36 Ha46_36 Ga46_36 (fits_nar_bool _) W37 2 rfl (Nat.le_of_ble_eq_true rfl)
    have N37 := Fr.snoc X37 N35 g_b28
    have Z37 : n0 ≤ h37.size := Nat.le_trans Z34 (Keep.of_wr W37).1
    obtain ⟨_, _, ⟨T38, L38, k38, n38⟩, -, X38, ⟨Lc38, hQ38, l38, y38, z38⟩, st38⟩ := Jvm.LawKit.callS X37 hx (y := (⟨"com/example/braided_tour/braidedtour/choice/LogitAnyAvailablePinLaw", "bit", "(II)Z"⟩ : MethodName)) hown (mvT hZ (hw _ (List.mem_of_getElem? (i := 5) rfl))) (mvT hZ (hw _ (List.mem_of_getElem? (i := 6) rfl))) (mvT hZ (hw _ (List.mem_of_getElem? (i := 7) rfl))) (mvT hZ (hw _ (List.mem_of_getElem? (i := 8) rfl))) (by decide) (backOf (W := 2) (rm2 l Z a0 hw [] p2 (3 : Int32) h37 n0 Z37 ) hZ (hw _ (List.mem_of_getElem? (i := 8) rfl)) (hw _ (List.mem_of_getElem? (i := 7) rfl)) (by decide) (by decide)) (g := (mkF m 56 #[.val (.int p1), .val (.int p2), .val (.int (4 : Int32)), .val (.ref b28), .unset, .unset] [(.int (3 : Int32)), (.int p2), (.int (3 : Int32)), (.ref b28)])) rfl (by rw [hml]; rfl) (argsL := [(.int p2), (.int (3 : Int32))]) (rest := [(.int (3 : Int32)), (.ref b28)]) (lenOf pd0_1 rfl) rfl (by show 2 * 0 + _ ≤ _; exact Nat.le_of_eq rfl) (hb hby at_56) (fun _ _ => ⟨rfl, e37, (by decide : 1 + 0 ≤ _), (by decide : 4 + 0 ≤ _)⟩)
    dsimp only [Pt.U, Pt.locs, Pt.cells, Pt.slots] at X38 l38 y38 z38 st38 hQ38
    subst l38 y38 z38
    obtain ⟨rfl, N38q, e38⟩ := hQ38
    have N38 := Fr.app N37 N38q
    have cp59_39 := V37
    obtain ⟨cl59_39, Ar59_39, qa59_39, Sa59_39, Na59_39, Ha59_39, Ga59_39⟩ := cp59_39
    have hin59_39 : ¬ ((3 : Int32) < 0 ∨ cl59_39.slots.size ≤ ((3 : Int32)).toNatClampNeg) := inb_of Sa59_39 ⟨by decide, by decide⟩
    obtain ⟨T40, h40, X40, e40, W40, st40⟩ := stZ X38 hx hZ e38 Ar59_39 (j := (3 : Int32)) hin59_39 (g := (mkF m 59 #[.val (.int p1), .val (.int p2), .val (.int (4 : Int32)), .val (.ref b28), .unset, .unset] [(.int (own_bit p2 (3 : Int32))), (.int (3 : Int32)), (.ref b28)])) rfl rfl (hb hby at_59)
    have V40 : Arv Z h40 b28 k28 .boolean (4 : Int32) [(.int (nar .boolean (own_bit p2 (0 : Int32)))), (.int (nar .boolean (own_bit p2 (1 : Int32)))), (.int (nar .boolean (own_bit p2 (2 : Int32)))), (.int (nar .boolean (own_bit p2 (3 : Int32))))] (.int (0 : Int32)) := Arv.set Ar59_39 qa59_39 Sa59_39 Na59_39 Ha59_39 Ga59_39 (fits_nar_bool _) W40 3 rfl (Nat.le_of_ble_eq_true rfl)
    have N40 := Fr.snoc X40 N38 g_b28
    have Z40 : n0 ≤ h40.size := Nat.le_trans Z37 (Keep.of_wr W40).1
    obtain ⟨j111_S0k4, ej111_S0k4⟩ : ∃ z : Int32, z = (if (p2 &&& (((1 : Int32) <<< ((4 : Int32) &&& 31)) - (1 : Int32))) = (0 : Int32) then (0 : Int32) else (1 : Int32)) := ⟨_, rfl⟩
    have sg111k4 : ∀ t, Steps p.tables e below (T40.setTop (mkF m 121 #[.val (.int p1), .val (.int p2), .val (.int (4 : Int32)), .val (.ref b28), .val (.int (p2 &&& (((1 : Int32) <<< ((4 : Int32) &&& 31)) - (1 : Int32)))), .unset] [(.int j111_S0k4)])) t → Steps p.tables e below (T40.setTop (mkF m 111 #[.val (.int p1), .val (.int p2), .val (.int (4 : Int32)), .val (.ref b28), .val (.int (p2 &&& (((1 : Int32) <<< ((4 : Int32) &&& 31)) - (1 : Int32)))), .unset] [])) t := fun t kt => by
      show Steps p.tables e below (T40.setTop (mkF m 111 #[.val (.int p1), .val (.int p2), .val (.int (4 : Int32)), .val (.ref b28), .val (.int (p2 &&& (((1 : Int32) <<< ((4 : Int32) &&& 31)) - (1 : Int32)))), .unset] [])) _
      refine XS.iload X40.here hx rfl (hb hby at_111) rfl ?_
      by_cases hc113 : (p2 &&& (((1 : Int32) <<< ((4 : Int32) &&& 31)) - (1 : Int32))) = (0 : Int32)
      · have qj111_S0k4 : j111_S0k4 = (0 : Int32) := by rw [ej111_S0k4, if_pos hc113]
        rw [qj111_S0k4] at kt
        show Steps p.tables e below (T40.setTop (mkF m 113 #[.val (.int p1), .val (.int p2), .val (.int (4 : Int32)), .val (.ref b28), .val (.int (p2 &&& (((1 : Int32) <<< ((4 : Int32) &&& 31)) - (1 : Int32)))), .unset] [(.int (p2 &&& (((1 : Int32) <<< ((4 : Int32) &&& 31)) - (1 : Int32))))])) _
        refine XS.ifYes X40.here hx rfl (pc0 := 113) (pc' := 120) rfl (hb hby at_113) rfl ((if0 _ _).trans (teq hc113).1) (by decide) (by decide) ?_
        show Steps p.tables e below (T40.setTop (mkF m 120 #[.val (.int p1), .val (.int p2), .val (.int (4 : Int32)), .val (.ref b28), .val (.int (p2 &&& (((1 : Int32) <<< ((4 : Int32) &&& 31)) - (1 : Int32)))), .unset] [])) _
        refine XS.iconst X40.here hx rfl (hb hby at_120) ?_
        exact kt
      · have qj111_S0k4 : j111_S0k4 = (1 : Int32) := by rw [ej111_S0k4, if_neg hc113]
        rw [qj111_S0k4] at kt
        show Steps p.tables e below (T40.setTop (mkF m 113 #[.val (.int p1), .val (.int p2), .val (.int (4 : Int32)), .val (.ref b28), .val (.int (p2 &&& (((1 : Int32) <<< ((4 : Int32) &&& 31)) - (1 : Int32)))), .unset] [(.int (p2 &&& (((1 : Int32) <<< ((4 : Int32) &&& 31)) - (1 : Int32))))])) _
        refine XS.ifNo X40.here hx rfl (hb hby at_113) rfl ((if0 _ _).trans (feq hc113).1) ?_
        show Steps p.tables e below (T40.setTop (mkF m 116 #[.val (.int p1), .val (.int p2), .val (.int (4 : Int32)), .val (.ref b28), .val (.int (p2 &&& (((1 : Int32) <<< ((4 : Int32) &&& 31)) - (1 : Int32)))), .unset] [])) _
        refine XS.iconst X40.here hx rfl (hb hby at_116) ?_
        show Steps p.tables e below (T40.setTop (mkF m 117 #[.val (.int p1), .val (.int p2), .val (.int (4 : Int32)), .val (.ref b28), .val (.int (p2 &&& (((1 : Int32) <<< ((4 : Int32) &&& 31)) - (1 : Int32)))), .unset] [(.int (1 : Int32))])) _
        refine XS.goto X40.here hx rfl (pc0 := 117) (pc' := 121) rfl (hb hby at_117) (by decide) (by decide) ?_
        exact kt
    obtain ⟨_, _, ⟨T41, L41, k41, n41⟩, -, X41, ⟨Lc41, hQ41, l41, y41, z41⟩, st41⟩ := Jvm.LawKit.callS X40 hx (y := (⟨"com/example/braided_tour/braidedtour/choice/Logit", "anyAvailable", "([Z)Z"⟩ : MethodName)) hown (mvT hZ (hw _ (List.mem_of_getElem? (i := 1) rfl))) (mvT hZ (hw _ (List.mem_of_getElem? (i := 2) rfl))) (mvT hZ (hw _ (List.mem_of_getElem? (i := 3) rfl))) (mvT hZ (hw _ (List.mem_of_getElem? (i := 4) rfl))) (by decide) (backOf (W := 0) (rm1n4 l Z a0 hw [] b28 k28 (nar .boolean (own_bit p2 (0 : Int32))) (nar .boolean (own_bit p2 (1 : Int32))) (nar .boolean (own_bit p2 (2 : Int32))) (nar .boolean (own_bit p2 (3 : Int32))) h40 n0 Z40 V40) hZ (hw _ (List.mem_of_getElem? (i := 4) rfl)) (hw _ (List.mem_of_getElem? (i := 3) rfl)) (by decide) (by decide)) (g := (mkF m 124 #[.val (.int p1), .val (.int p2), .val (.int (4 : Int32)), .val (.ref b28), .val (.int (p2 &&& (((1 : Int32) <<< ((4 : Int32) &&& 31)) - (1 : Int32)))), .val (.int j111_S0k4)] [(.ref b28)])) rfl (by rw [hml]; rfl) (argsL := [(.ref b28)]) (rest := []) (lenOf pd0_0 rfl) rfl (by show 2 * 0 + _ ≤ _; exact Nat.le_of_eq rfl) (hb hby at_124) (fun _ _ => ⟨rfl, e40, (by decide : 1 + 0 ≤ _), (by decide : 4 + 0 ≤ _)⟩)
    dsimp only [Pt.U, Pt.locs, Pt.cells, Pt.slots] at X41 l41 y41 z41 st41 hQ41
    subst l41 y41 z41
    obtain ⟨rfl, N41q, e41⟩ := hQ41
    have N41 := Fr.app N40 N41q
    obtain ⟨fs, hr, hrun, hended, hW, hsame⟩ := X41.leave (v := some (.int (1 : Int32))) (fun h => by rw [Bd.returns] at h; cases h)
    refine ⟨_, _, c1 _ ?_, hrun, hended, _, _, rfl, ?_, ⟨_, rfl⟩, hW, hsame.mono (by decide) (by decide)⟩
    · show Steps p.tables e below (s₁.setTop (mkF m 5 #[.val (.int p1), .val (.int p2), .val (.int (4 : Int32)), .unset, .unset, .unset] [])) _
      refine XS.iloadN X0.here hx rfl (hb hby at_5) rfl ?_
      show Steps p.tables e below (s₁.setTop (mkF m 6 #[.val (.int p1), .val (.int p2), .val (.int (4 : Int32)), .unset, .unset, .unset] [(.int (4 : Int32))])) _
      refine st28 _ ?_
      show Steps p.tables e below (T28.setTop (mkF m 8 #[.val (.int p1), .val (.int p2), .val (.int (4 : Int32)), .unset, .unset, .unset] [(.ref b28)])) _
      refine XS.astoreN X28.here hx rfl (hb hby at_8) rfl rfl (l' := #[.val (.int p1), .val (.int p2), .val (.int (4 : Int32)), .val (.ref b28), .unset, .unset]) rfl ?_
      show Steps p.tables e below (T28.setTop (mkF m 9 #[.val (.int p1), .val (.int p2), .val (.int (4 : Int32)), .val (.ref b28), .unset, .unset] [])) _
      refine XS.iloadN X28.here hx rfl (hb hby at_9) rfl ?_
      show Steps p.tables e below (T28.setTop (mkF m 10 #[.val (.int p1), .val (.int p2), .val (.int (4 : Int32)), .val (.ref b28), .unset, .unset] [(.int (4 : Int32))])) _
      refine XS.ifNo X28.here hx rfl (hb hby at_10) rfl ((if0 _ _).trans (tlt (by decide)).2.2.2) ?_
      show Steps p.tables e below (T28.setTop (mkF m 13 #[.val (.int p1), .val (.int p2), .val (.int (4 : Int32)), .val (.ref b28), .unset, .unset] [])) _
      refine XS.aloadN X28.here hx rfl (hb hby at_13) rfl rfl ?_
      show Steps p.tables e below (T28.setTop (mkF m 14 #[.val (.int p1), .val (.int p2), .val (.int (4 : Int32)), .val (.ref b28), .unset, .unset] [(.ref b28)])) _
      refine XS.iconst X28.here hx rfl (hb hby at_14) ?_
      show Steps p.tables e below (T28.setTop (mkF m 15 #[.val (.int p1), .val (.int p2), .val (.int (4 : Int32)), .val (.ref b28), .unset, .unset] [(.int (0 : Int32)), (.ref b28)])) _
      refine XS.iloadN X28.here hx rfl (hb hby at_15) rfl ?_
      show Steps p.tables e below (T28.setTop (mkF m 16 #[.val (.int p1), .val (.int p2), .val (.int (4 : Int32)), .val (.ref b28), .unset, .unset] [(.int p2), (.int (0 : Int32)), (.ref b28)])) _
      refine XS.iconst X28.here hx rfl (hb hby at_16) ?_
      show Steps p.tables e below (T28.setTop (mkF m 17 #[.val (.int p1), .val (.int p2), .val (.int (4 : Int32)), .val (.ref b28), .unset, .unset] [(.int (0 : Int32)), (.int p2), (.int (0 : Int32)), (.ref b28)])) _
      refine st29 _ ?_
      show Steps p.tables e below (T29.setTop (mkF m 20 #[.val (.int p1), .val (.int p2), .val (.int (4 : Int32)), .val (.ref b28), .unset, .unset] [(.int (own_bit p2 (0 : Int32))), (.int (0 : Int32)), (.ref b28)])) _
      refine st31 _ ?_
      show Steps p.tables e below (T31.setTop (mkF m 21 #[.val (.int p1), .val (.int p2), .val (.int (4 : Int32)), .val (.ref b28), .unset, .unset] [])) _
      refine XS.iloadN X31.here hx rfl (hb hby at_21) rfl ?_
      show Steps p.tables e below (T31.setTop (mkF m 22 #[.val (.int p1), .val (.int p2), .val (.int (4 : Int32)), .val (.ref b28), .unset, .unset] [(.int (4 : Int32))])) _
      refine XS.iconst X31.here hx rfl (hb hby at_22) ?_
      show Steps p.tables e below (T31.setTop (mkF m 23 #[.val (.int p1), .val (.int p2), .val (.int (4 : Int32)), .val (.ref b28), .unset, .unset] [(.int (1 : Int32)), (.int (4 : Int32))])) _
      refine XS.icmpNo X31.here hx rfl (hb hby at_23) rfl (tlt (by decide)).2.2.2 ?_
      show Steps p.tables e below (T31.setTop (mkF m 26 #[.val (.int p1), .val (.int p2), .val (.int (4 : Int32)), .val (.ref b28), .unset, .unset] [])) _
      refine XS.aloadN X31.here hx rfl (hb hby at_26) rfl rfl ?_
      show Steps p.tables e below (T31.setTop (mkF m 27 #[.val (.int p1), .val (.int p2), .val (.int (4 : Int32)), .val (.ref b28), .unset, .unset] [(.ref b28)])) _
      refine XS.iconst X31.here hx rfl (hb hby at_27) ?_
      show Steps p.tables e below (T31.setTop (mkF m 28 #[.val (.int p1), .val (.int p2), .val (.int (4 : Int32)), .val (.ref b28), .unset, .unset] [(.int (1 : Int32)), (.ref b28)])) _
      refine XS.iloadN X31.here hx rfl (hb hby at_28) rfl ?_
      show Steps p.tables e below (T31.setTop (mkF m 29 #[.val (.int p1), .val (.int p2), .val (.int (4 : Int32)), .val (.ref b28), .unset, .unset] [(.int p2), (.int (1 : Int32)), (.ref b28)])) _
      refine XS.iconst X31.here hx rfl (hb hby at_29) ?_
      show Steps p.tables e below (T31.setTop (mkF m 30 #[.val (.int p1), .val (.int p2), .val (.int (4 : Int32)), .val (.ref b28), .unset, .unset] [(.int (1 : Int32)), (.int p2), (.int (1 : Int32)), (.ref b28)])) _
      refine st32 _ ?_
      show Steps p.tables e below (T32.setTop (mkF m 33 #[.val (.int p1), .val (.int p2), .val (.int (4 : Int32)), .val (.ref b28), .unset, .unset] [(.int (own_bit p2 (1 : Int32))), (.int (1 : Int32)), (.ref b28)])) _
      refine st34 _ ?_
      show Steps p.tables e below (T34.setTop (mkF m 34 #[.val (.int p1), .val (.int p2), .val (.int (4 : Int32)), .val (.ref b28), .unset, .unset] [])) _
      refine XS.iloadN X34.here hx rfl (hb hby at_34) rfl ?_
      show Steps p.tables e below (T34.setTop (mkF m 35 #[.val (.int p1), .val (.int p2), .val (.int (4 : Int32)), .val (.ref b28), .unset, .unset] [(.int (4 : Int32))])) _
      refine XS.iconst X34.here hx rfl (hb hby at_35) ?_
      show Steps p.tables e below (T34.setTop (mkF m 36 #[.val (.int p1), .val (.int p2), .val (.int (4 : Int32)), .val (.ref b28), .unset, .unset] [(.int (2 : Int32)), (.int (4 : Int32))])) _
      refine XS.icmpNo X34.here hx rfl (hb hby at_36) rfl (tlt (by decide)).2.2.2 ?_
      show Steps p.tables e below (T34.setTop (mkF m 39 #[.val (.int p1), .val (.int p2), .val (.int (4 : Int32)), .val (.ref b28), .unset, .unset] [])) _
      refine XS.aloadN X34.here hx rfl (hb hby at_39) rfl rfl ?_
      show Steps p.tables e below (T34.setTop (mkF m 40 #[.val (.int p1), .val (.int p2), .val (.int (4 : Int32)), .val (.ref b28), .unset, .unset] [(.ref b28)])) _
      refine XS.iconst X34.here hx rfl (hb hby at_40) ?_
      show Steps p.tables e below (T34.setTop (mkF m 41 #[.val (.int p1), .val (.int p2), .val (.int (4 : Int32)), .val (.ref b28), .unset, .unset] [(.int (2 : Int32)), (.ref b28)])) _
      refine XS.iloadN X34.here hx rfl (hb hby at_41) rfl ?_
      show Steps p.tables e below (T34.setTop (mkF m 42 #[.val (.int p1), .val (.int p2), .val (.int (4 : Int32)), .val (.ref b28), .unset, .unset] [(.int p2), (.int (2 : Int32)), (.ref b28)])) _
      refine XS.iconst X34.here hx rfl (hb hby at_42) ?_
      show Steps p.tables e below (T34.setTop (mkF m 43 #[.val (.int p1), .val (.int p2), .val (.int (4 : Int32)), .val (.ref b28), .unset, .unset] [(.int (2 : Int32)), (.int p2), (.int (2 : Int32)), (.ref b28)])) _
      refine st35 _ ?_
      show Steps p.tables e below (T35.setTop (mkF m 46 #[.val (.int p1), .val (.int p2), .val (.int (4 : Int32)), .val (.ref b28), .unset, .unset] [(.int (own_bit p2 (2 : Int32))), (.int (2 : Int32)), (.ref b28)])) _
      refine st37 _ ?_
      show Steps p.tables e below (T37.setTop (mkF m 47 #[.val (.int p1), .val (.int p2), .val (.int (4 : Int32)), .val (.ref b28), .unset, .unset] [])) _
      refine XS.iloadN X37.here hx rfl (hb hby at_47) rfl ?_
      show Steps p.tables e below (T37.setTop (mkF m 48 #[.val (.int p1), .val (.int p2), .val (.int (4 : Int32)), .val (.ref b28), .unset, .unset] [(.int (4 : Int32))])) _
      refine XS.iconst X37.here hx rfl (hb hby at_48) ?_
      show Steps p.tables e below (T37.setTop (mkF m 49 #[.val (.int p1), .val (.int p2), .val (.int (4 : Int32)), .val (.ref b28), .unset, .unset] [(.int (3 : Int32)), (.int (4 : Int32))])) _
      refine XS.icmpNo X37.here hx rfl (hb hby at_49) rfl (tlt (by decide)).2.2.2 ?_
      show Steps p.tables e below (T37.setTop (mkF m 52 #[.val (.int p1), .val (.int p2), .val (.int (4 : Int32)), .val (.ref b28), .unset, .unset] [])) _
      refine XS.aloadN X37.here hx rfl (hb hby at_52) rfl rfl ?_
      show Steps p.tables e below (T37.setTop (mkF m 53 #[.val (.int p1), .val (.int p2), .val (.int (4 : Int32)), .val (.ref b28), .unset, .unset] [(.ref b28)])) _
      refine XS.iconst X37.here hx rfl (hb hby at_53) ?_
      show Steps p.tables e below (T37.setTop (mkF m 54 #[.val (.int p1), .val (.int p2), .val (.int (4 : Int32)), .val (.ref b28), .unset, .unset] [(.int (3 : Int32)), (.ref b28)])) _
      refine XS.iloadN X37.here hx rfl (hb hby at_54) rfl ?_
      show Steps p.tables e below (T37.setTop (mkF m 55 #[.val (.int p1), .val (.int p2), .val (.int (4 : Int32)), .val (.ref b28), .unset, .unset] [(.int p2), (.int (3 : Int32)), (.ref b28)])) _
      refine XS.iconst X37.here hx rfl (hb hby at_55) ?_
      show Steps p.tables e below (T37.setTop (mkF m 56 #[.val (.int p1), .val (.int p2), .val (.int (4 : Int32)), .val (.ref b28), .unset, .unset] [(.int (3 : Int32)), (.int p2), (.int (3 : Int32)), (.ref b28)])) _
      refine st38 _ ?_
      show Steps p.tables e below (T38.setTop (mkF m 59 #[.val (.int p1), .val (.int p2), .val (.int (4 : Int32)), .val (.ref b28), .unset, .unset] [(.int (own_bit p2 (3 : Int32))), (.int (3 : Int32)), (.ref b28)])) _
      refine st40 _ ?_
      show Steps p.tables e below (T40.setTop (mkF m 60 #[.val (.int p1), .val (.int p2), .val (.int (4 : Int32)), .val (.ref b28), .unset, .unset] [])) _
      refine XS.iloadN X40.here hx rfl (hb hby at_60) rfl ?_
      show Steps p.tables e below (T40.setTop (mkF m 61 #[.val (.int p1), .val (.int p2), .val (.int (4 : Int32)), .val (.ref b28), .unset, .unset] [(.int (4 : Int32))])) _
      refine XS.iconst X40.here hx rfl (hb hby at_61) ?_
      show Steps p.tables e below (T40.setTop (mkF m 62 #[.val (.int p1), .val (.int p2), .val (.int (4 : Int32)), .val (.ref b28), .unset, .unset] [(.int (4 : Int32)), (.int (4 : Int32))])) _
      refine XS.icmpYes X40.here hx rfl (pc0 := 62) (pc' := 73) rfl (hb hby at_62) rfl (flt (by decide)).2.2.2 (by decide) (by decide) ?_
      show Steps p.tables e below (T40.setTop (mkF m 73 #[.val (.int p1), .val (.int p2), .val (.int (4 : Int32)), .val (.ref b28), .unset, .unset] [])) _
      refine XS.iloadN X40.here hx rfl (hb hby at_73) rfl ?_
      show Steps p.tables e below (T40.setTop (mkF m 74 #[.val (.int p1), .val (.int p2), .val (.int (4 : Int32)), .val (.ref b28), .unset, .unset] [(.int (4 : Int32))])) _
      refine XS.iconst X40.here hx rfl (hb hby at_74) ?_
      show Steps p.tables e below (T40.setTop (mkF m 75 #[.val (.int p1), .val (.int p2), .val (.int (4 : Int32)), .val (.ref b28), .unset, .unset] [(.int (5 : Int32)), (.int (4 : Int32))])) _
      refine XS.icmpYes X40.here hx rfl (pc0 := 75) (pc' := 86) rfl (hb hby at_75) rfl (flt (by decide)).2.2.2 (by decide) (by decide) ?_
      show Steps p.tables e below (T40.setTop (mkF m 86 #[.val (.int p1), .val (.int p2), .val (.int (4 : Int32)), .val (.ref b28), .unset, .unset] [])) _
      refine XS.iloadN X40.here hx rfl (hb hby at_86) rfl ?_
      show Steps p.tables e below (T40.setTop (mkF m 87 #[.val (.int p1), .val (.int p2), .val (.int (4 : Int32)), .val (.ref b28), .unset, .unset] [(.int (4 : Int32))])) _
      refine XS.bipush X40.here hx rfl (hb hby at_87) ?_
      show Steps p.tables e below (T40.setTop (mkF m 89 #[.val (.int p1), .val (.int p2), .val (.int (4 : Int32)), .val (.ref b28), .unset, .unset] [(.int (6 : Int32)), (.int (4 : Int32))])) _
      refine XS.icmpYes X40.here hx rfl (pc0 := 89) (pc' := 102) rfl (hb hby at_89) rfl (flt (by decide)).2.2.2 (by decide) (by decide) ?_
      show Steps p.tables e below (T40.setTop (mkF m 102 #[.val (.int p1), .val (.int p2), .val (.int (4 : Int32)), .val (.ref b28), .unset, .unset] [])) _
      refine XS.iloadN X40.here hx rfl (hb hby at_102) rfl ?_
      show Steps p.tables e below (T40.setTop (mkF m 103 #[.val (.int p1), .val (.int p2), .val (.int (4 : Int32)), .val (.ref b28), .unset, .unset] [(.int p2)])) _
      refine XS.iconst X40.here hx rfl (hb hby at_103) ?_
      show Steps p.tables e below (T40.setTop (mkF m 104 #[.val (.int p1), .val (.int p2), .val (.int (4 : Int32)), .val (.ref b28), .unset, .unset] [(.int (1 : Int32)), (.int p2)])) _
      refine XS.iloadN X40.here hx rfl (hb hby at_104) rfl ?_
      show Steps p.tables e below (T40.setTop (mkF m 105 #[.val (.int p1), .val (.int p2), .val (.int (4 : Int32)), .val (.ref b28), .unset, .unset] [(.int (4 : Int32)), (.int (1 : Int32)), (.int p2)])) _
      refine XS.ishl X40.here hx rfl (hb hby at_105) rfl ?_
      show Steps p.tables e below (T40.setTop (mkF m 106 #[.val (.int p1), .val (.int p2), .val (.int (4 : Int32)), .val (.ref b28), .unset, .unset] [(.int ((1 : Int32) <<< ((4 : Int32) &&& 31))), (.int p2)])) _
      refine XS.iconst X40.here hx rfl (hb hby at_106) ?_
      show Steps p.tables e below (T40.setTop (mkF m 107 #[.val (.int p1), .val (.int p2), .val (.int (4 : Int32)), .val (.ref b28), .unset, .unset] [(.int (1 : Int32)), (.int ((1 : Int32) <<< ((4 : Int32) &&& 31))), (.int p2)])) _
      refine XS.isub X40.here hx rfl (hb hby at_107) rfl ?_
      show Steps p.tables e below (T40.setTop (mkF m 108 #[.val (.int p1), .val (.int p2), .val (.int (4 : Int32)), .val (.ref b28), .unset, .unset] [(.int (((1 : Int32) <<< ((4 : Int32) &&& 31)) - (1 : Int32))), (.int p2)])) _
      refine XS.iand X40.here hx rfl (hb hby at_108) rfl ?_
      show Steps p.tables e below (T40.setTop (mkF m 109 #[.val (.int p1), .val (.int p2), .val (.int (4 : Int32)), .val (.ref b28), .unset, .unset] [(.int (p2 &&& (((1 : Int32) <<< ((4 : Int32) &&& 31)) - (1 : Int32))))])) _
      refine XS.istore X40.here hx rfl (hb hby at_109) rfl (l' := #[.val (.int p1), .val (.int p2), .val (.int (4 : Int32)), .val (.ref b28), .val (.int (p2 &&& (((1 : Int32) <<< ((4 : Int32) &&& 31)) - (1 : Int32)))), .unset]) rfl ?_
      show Steps p.tables e below (T40.setTop (mkF m 111 #[.val (.int p1), .val (.int p2), .val (.int (4 : Int32)), .val (.ref b28), .val (.int (p2 &&& (((1 : Int32) <<< ((4 : Int32) &&& 31)) - (1 : Int32)))), .unset] [])) _
      refine sg111k4 _ ?_
      show Steps p.tables e below (T40.setTop (mkF m 121 #[.val (.int p1), .val (.int p2), .val (.int (4 : Int32)), .val (.ref b28), .val (.int (p2 &&& (((1 : Int32) <<< ((4 : Int32) &&& 31)) - (1 : Int32)))), .unset] [(.int j111_S0k4)])) _
      refine XS.istore X40.here hx rfl (hb hby at_121) rfl (l' := #[.val (.int p1), .val (.int p2), .val (.int (4 : Int32)), .val (.ref b28), .val (.int (p2 &&& (((1 : Int32) <<< ((4 : Int32) &&& 31)) - (1 : Int32)))), .val (.int j111_S0k4)]) rfl ?_
      show Steps p.tables e below (T40.setTop (mkF m 123 #[.val (.int p1), .val (.int p2), .val (.int (4 : Int32)), .val (.ref b28), .val (.int (p2 &&& (((1 : Int32) <<< ((4 : Int32) &&& 31)) - (1 : Int32)))), .val (.int j111_S0k4)] [])) _
      refine XS.aloadN X40.here hx rfl (hb hby at_123) rfl rfl ?_
      show Steps p.tables e below (T40.setTop (mkF m 124 #[.val (.int p1), .val (.int p2), .val (.int (4 : Int32)), .val (.ref b28), .val (.int (p2 &&& (((1 : Int32) <<< ((4 : Int32) &&& 31)) - (1 : Int32)))), .val (.int j111_S0k4)] [(.ref b28)])) _
      refine st41 _ ?_
      show Steps p.tables e below (T41.setTop (mkF m 127 #[.val (.int p1), .val (.int p2), .val (.int (4 : Int32)), .val (.ref b28), .val (.int (p2 &&& (((1 : Int32) <<< ((4 : Int32) &&& 31)) - (1 : Int32)))), .val (.int j111_S0k4)] [(.int (own_any4 (nar .boolean (own_bit p2 (0 : Int32))) (nar .boolean (own_bit p2 (1 : Int32))) (nar .boolean (own_bit p2 (2 : Int32))) (nar .boolean (own_bit p2 (3 : Int32)))))])) _
      refine XS.iload X41.here hx rfl (hb hby at_127) rfl ?_
      show Steps p.tables e below (T41.setTop (mkF m 129 #[.val (.int p1), .val (.int p2), .val (.int (4 : Int32)), .val (.ref b28), .val (.int (p2 &&& (((1 : Int32) <<< ((4 : Int32) &&& 31)) - (1 : Int32)))), .val (.int j111_S0k4)] [(.int j111_S0k4), (.int (own_any4 (nar .boolean (own_bit p2 (0 : Int32))) (nar .boolean (own_bit p2 (1 : Int32))) (nar .boolean (own_bit p2 (2 : Int32))) (nar .boolean (own_bit p2 (3 : Int32)))))])) _
      refine XS.icmpNo X41.here hx rfl (hb hby at_129) rfl (teq ((own_all4 p2).trans ej111_S0k4.symm)).2 ?_
      show Steps p.tables e below (T41.setTop (mkF m 132 #[.val (.int p1), .val (.int p2), .val (.int (4 : Int32)), .val (.ref b28), .val (.int (p2 &&& (((1 : Int32) <<< ((4 : Int32) &&& 31)) - (1 : Int32)))), .val (.int j111_S0k4)] [])) _
      refine XS.iconst X41.here hx rfl (hb hby at_132) ?_
      show Steps p.tables e below (T41.setTop (mkF m 133 #[.val (.int p1), .val (.int p2), .val (.int (4 : Int32)), .val (.ref b28), .val (.int (p2 &&& (((1 : Int32) <<< ((4 : Int32) &&& 31)) - (1 : Int32)))), .val (.int j111_S0k4)] [(.int (1 : Int32))])) _
      refine XS.goto X41.here hx rfl (pc0 := 133) (pc' := 137) rfl (hb hby at_133) (by decide) (by decide) ?_
      show Steps p.tables e below (T41.setTop (mkF m 137 #[.val (.int p1), .val (.int p2), .val (.int (4 : Int32)), .val (.ref b28), .val (.int (p2 &&& (((1 : Int32) <<< ((4 : Int32) &&& 31)) - (1 : Int32)))), .val (.int j111_S0k4)] [(.int (1 : Int32))])) _
      exact retN X41 hx (t := .boolean) Bd.returns (by simp) (hb hby at_137) hr
    · show Q0 Z p1 p2 h0 n0 _ T41.heap _
      rw [e41]
      exact ⟨rfl, N41⟩
  · rw [hk] at c1
    obtain ⟨T42, h42, k42, X42, e42, E42, A42, st42⟩ := newP X0 hx hZ (hw _ (List.mem_of_getElem? (i := 0) rfl)) e0 (g := (mkF m 6 #[.val (.int p1), .val (.int p2), .val (.int (5 : Int32)), .unset, .unset, .unset] [(.int (5 : Int32))])) rfl (hb hby at_6) rfl (by decide) (cap := 5) (by decide) (by decide) (by decide) (by decide)
    obtain ⟨b42, g42⟩ : ∃ z, z = h0.size := ⟨_, rfl⟩
    rw [← g42] at A42 st42
    have g_b42 : n0 ≤ b42 := Nat.le_trans Z0 (Nat.le_of_eq g42.symm)
    have Z42 : n0 ≤ h42.size := Nat.le_trans Z0 E42.1
    have V42 : Arv Z h42 b42 k42 .boolean (5 : Int32) [(.int (0 : Int32)), (.int (0 : Int32)), (.int (0 : Int32)), (.int (0 : Int32)), (.int (0 : Int32))] (.int (0 : Int32)) := (Arv.new A42 (by decide)).pad (pad_rep [] (.int (0 : Int32)) 5)
    obtain ⟨_, _, ⟨T43, L43, k43, n43⟩, -, X43, ⟨Lc43, hQ43, l43, y43, z43⟩, st43⟩ := Jvm.LawKit.callS X42 hx (y := (⟨"com/example/braided_tour/braidedtour/choice/LogitAnyAvailablePinLaw", "bit", "(II)Z"⟩ : MethodName)) hown (mvT hZ (hw _ (List.mem_of_getElem? (i := 5) rfl))) (mvT hZ (hw _ (List.mem_of_getElem? (i := 6) rfl))) (mvT hZ (hw _ (List.mem_of_getElem? (i := 7) rfl))) (mvT hZ (hw _ (List.mem_of_getElem? (i := 8) rfl))) (by decide) (backOf (W := 2) (rm2 l Z a0 hw [] p2 (0 : Int32) h42 n0 Z42 ) hZ (hw _ (List.mem_of_getElem? (i := 8) rfl)) (hw _ (List.mem_of_getElem? (i := 7) rfl)) (by decide) (by decide)) (g := (mkF m 17 #[.val (.int p1), .val (.int p2), .val (.int (5 : Int32)), .val (.ref b42), .unset, .unset] [(.int (0 : Int32)), (.int p2), (.int (0 : Int32)), (.ref b42)])) rfl (by rw [hml]; rfl) (argsL := [(.int p2), (.int (0 : Int32))]) (rest := [(.int (0 : Int32)), (.ref b42)]) (lenOf pd0_1 rfl) rfl (by show 2 * 0 + _ ≤ _; exact Nat.le_of_eq rfl) (hb hby at_17) (fun _ _ => ⟨rfl, e42, (by decide : 1 + 0 ≤ _), (by decide : 5 + 0 ≤ _)⟩)
    dsimp only [Pt.U, Pt.locs, Pt.cells, Pt.slots] at X43 l43 y43 z43 st43 hQ43
    subst l43 y43 z43
    obtain ⟨rfl, N43q, e43⟩ := hQ43
    have N43 := Fr.app N0 N43q
    have cp20_44 := V42
    obtain ⟨cl20_44, Ar20_44, qa20_44, Sa20_44, Na20_44, Ha20_44, Ga20_44⟩ := cp20_44
    have hin20_44 : ¬ ((0 : Int32) < 0 ∨ cl20_44.slots.size ≤ ((0 : Int32)).toNatClampNeg) := inb_of Sa20_44 ⟨by decide, by decide⟩
    obtain ⟨T45, h45, X45, e45, W45, st45⟩ := stZ X43 hx hZ e43 Ar20_44 (j := (0 : Int32)) hin20_44 (g := (mkF m 20 #[.val (.int p1), .val (.int p2), .val (.int (5 : Int32)), .val (.ref b42), .unset, .unset] [(.int (own_bit p2 (0 : Int32))), (.int (0 : Int32)), (.ref b42)])) rfl rfl (hb hby at_20)
    have V45 : Arv Z h45 b42 k42 .boolean (5 : Int32) [(.int (nar .boolean (own_bit p2 (0 : Int32)))), (.int (0 : Int32)), (.int (0 : Int32)), (.int (0 : Int32)), (.int (0 : Int32))] (.int (0 : Int32)) := Arv.set Ar20_44 qa20_44 Sa20_44 Na20_44 Ha20_44 Ga20_44 (fits_nar_bool _) W45 0 rfl (Nat.le_of_ble_eq_true rfl)
    have N45 := Fr.snoc X45 N43 g_b42
    have Z45 : n0 ≤ h45.size := Nat.le_trans Z42 (Keep.of_wr W45).1
    obtain ⟨_, _, ⟨T46, L46, k46, n46⟩, -, X46, ⟨Lc46, hQ46, l46, y46, z46⟩, st46⟩ := Jvm.LawKit.callS X45 hx (y := (⟨"com/example/braided_tour/braidedtour/choice/LogitAnyAvailablePinLaw", "bit", "(II)Z"⟩ : MethodName)) hown (mvT hZ (hw _ (List.mem_of_getElem? (i := 5) rfl))) (mvT hZ (hw _ (List.mem_of_getElem? (i := 6) rfl))) (mvT hZ (hw _ (List.mem_of_getElem? (i := 7) rfl))) (mvT hZ (hw _ (List.mem_of_getElem? (i := 8) rfl))) (by decide) (backOf (W := 2) (rm2 l Z a0 hw [] p2 (1 : Int32) h45 n0 Z45 ) hZ (hw _ (List.mem_of_getElem? (i := 8) rfl)) (hw _ (List.mem_of_getElem? (i := 7) rfl)) (by decide) (by decide)) (g := (mkF m 30 #[.val (.int p1), .val (.int p2), .val (.int (5 : Int32)), .val (.ref b42), .unset, .unset] [(.int (1 : Int32)), (.int p2), (.int (1 : Int32)), (.ref b42)])) rfl (by rw [hml]; rfl) (argsL := [(.int p2), (.int (1 : Int32))]) (rest := [(.int (1 : Int32)), (.ref b42)]) (lenOf pd0_1 rfl) rfl (by show 2 * 0 + _ ≤ _; exact Nat.le_of_eq rfl) (hb hby at_30) (fun _ _ => ⟨rfl, e45, (by decide : 1 + 0 ≤ _), (by decide : 5 + 0 ≤ _)⟩)
    dsimp only [Pt.U, Pt.locs, Pt.cells, Pt.slots] at X46 l46 y46 z46 st46 hQ46
    subst l46 y46 z46
    obtain ⟨rfl, N46q, e46⟩ := hQ46
    have N46 := Fr.app N45 N46q
    have cp33_47 := V45
    obtain ⟨cl33_47, Ar33_47, qa33_47, Sa33_47, Na33_47, Ha33_47, Ga33_47⟩ := cp33_47
    have hin33_47 : ¬ ((1 : Int32) < 0 ∨ cl33_47.slots.size ≤ ((1 : Int32)).toNatClampNeg) := inb_of Sa33_47 ⟨by decide, by decide⟩
    obtain ⟨T48, h48, X48, e48, W48, st48⟩ := stZ X46 hx hZ e46 Ar33_47 (j := (1 : Int32)) hin33_47 (g := (mkF m 33 #[.val (.int p1), .val (.int p2), .val (.int (5 : Int32)), .val (.ref b42), .unset, .unset] [(.int (own_bit p2 (1 : Int32))), (.int (1 : Int32)), (.ref b42)])) rfl rfl (hb hby at_33)
    have V48 : Arv Z h48 b42 k42 .boolean (5 : Int32) [(.int (nar .boolean (own_bit p2 (0 : Int32)))), (.int (nar .boolean (own_bit p2 (1 : Int32)))), (.int (0 : Int32)), (.int (0 : Int32)), (.int (0 : Int32))] (.int (0 : Int32)) := Arv.set Ar33_47 qa33_47 Sa33_47 Na33_47 Ha33_47 Ga33_47 (fits_nar_bool _) W48 1 rfl (Nat.le_of_ble_eq_true rfl)
    have N48 := Fr.snoc X48 N46 g_b42
    have Z48 : n0 ≤ h48.size := Nat.le_trans Z45 (Keep.of_wr W48).1
    obtain ⟨_, _, ⟨T49, L49, k49, n49⟩, -, X49, ⟨Lc49, hQ49, l49, y49, z49⟩, st49⟩ := Jvm.LawKit.callS X48 hx (y := (⟨"com/example/braided_tour/braidedtour/choice/LogitAnyAvailablePinLaw", "bit", "(II)Z"⟩ : MethodName)) hown (mvT hZ (hw _ (List.mem_of_getElem? (i := 5) rfl))) (mvT hZ (hw _ (List.mem_of_getElem? (i := 6) rfl))) (mvT hZ (hw _ (List.mem_of_getElem? (i := 7) rfl))) (mvT hZ (hw _ (List.mem_of_getElem? (i := 8) rfl))) (by decide) (backOf (W := 2) (rm2 l Z a0 hw [] p2 (2 : Int32) h48 n0 Z48 ) hZ (hw _ (List.mem_of_getElem? (i := 8) rfl)) (hw _ (List.mem_of_getElem? (i := 7) rfl)) (by decide) (by decide)) (g := (mkF m 43 #[.val (.int p1), .val (.int p2), .val (.int (5 : Int32)), .val (.ref b42), .unset, .unset] [(.int (2 : Int32)), (.int p2), (.int (2 : Int32)), (.ref b42)])) rfl (by rw [hml]; rfl) (argsL := [(.int p2), (.int (2 : Int32))]) (rest := [(.int (2 : Int32)), (.ref b42)]) (lenOf pd0_1 rfl) rfl (by show 2 * 0 + _ ≤ _; exact Nat.le_of_eq rfl) (hb hby at_43) (fun _ _ => ⟨rfl, e48, (by decide : 1 + 0 ≤ _), (by decide : 5 + 0 ≤ _)⟩)
    dsimp only [Pt.U, Pt.locs, Pt.cells, Pt.slots] at X49 l49 y49 z49 st49 hQ49
    subst l49 y49 z49
    obtain ⟨rfl, N49q, e49⟩ := hQ49
    have N49 := Fr.app N48 N49q
    have cp46_50 := V48
    obtain ⟨cl46_50, Ar46_50, qa46_50, Sa46_50, Na46_50, Ha46_50, Ga46_50⟩ := cp46_50
    have hin46_50 : ¬ ((2 : Int32) < 0 ∨ cl46_50.slots.size ≤ ((2 : Int32)).toNatClampNeg) := inb_of Sa46_50 ⟨by decide, by decide⟩
    obtain ⟨T51, h51, X51, e51, W51, st51⟩ := stZ X49 hx hZ e49 Ar46_50 (j := (2 : Int32)) hin46_50 (g := (mkF m 46 #[.val (.int p1), .val (.int p2), .val (.int (5 : Int32)), .val (.ref b42), .unset, .unset] [(.int (own_bit p2 (2 : Int32))), (.int (2 : Int32)), (.ref b42)])) rfl rfl (hb hby at_46)
    have V51 : Arv Z h51 b42 k42 .boolean (5 : Int32) [(.int (nar .boolean (own_bit p2 (0 : Int32)))), (.int (nar .boolean (own_bit p2 (1 : Int32)))), (.int (nar .boolean (own_bit p2 (2 : Int32)))), (.int (0 : Int32)), (.int (0 : Int32))] (.int (0 : Int32)) := Arv.set Ar46_50 qa46_50 Sa46_50 Na46_50 Ha46_50 Ga46_50 (fits_nar_bool _) W51 2 rfl (Nat.le_of_ble_eq_true rfl)
    have N51 := Fr.snoc X51 N49 g_b42
    have Z51 : n0 ≤ h51.size := Nat.le_trans Z48 (Keep.of_wr W51).1
    obtain ⟨_, _, ⟨T52, L52, k52, n52⟩, -, X52, ⟨Lc52, hQ52, l52, y52, z52⟩, st52⟩ := Jvm.LawKit.callS X51 hx (y := (⟨"com/example/braided_tour/braidedtour/choice/LogitAnyAvailablePinLaw", "bit", "(II)Z"⟩ : MethodName)) hown (mvT hZ (hw _ (List.mem_of_getElem? (i := 5) rfl))) (mvT hZ (hw _ (List.mem_of_getElem? (i := 6) rfl))) (mvT hZ (hw _ (List.mem_of_getElem? (i := 7) rfl))) (mvT hZ (hw _ (List.mem_of_getElem? (i := 8) rfl))) (by decide) (backOf (W := 2) (rm2 l Z a0 hw [] p2 (3 : Int32) h51 n0 Z51 ) hZ (hw _ (List.mem_of_getElem? (i := 8) rfl)) (hw _ (List.mem_of_getElem? (i := 7) rfl)) (by decide) (by decide)) (g := (mkF m 56 #[.val (.int p1), .val (.int p2), .val (.int (5 : Int32)), .val (.ref b42), .unset, .unset] [(.int (3 : Int32)), (.int p2), (.int (3 : Int32)), (.ref b42)])) rfl (by rw [hml]; rfl) (argsL := [(.int p2), (.int (3 : Int32))]) (rest := [(.int (3 : Int32)), (.ref b42)]) (lenOf pd0_1 rfl) rfl (by show 2 * 0 + _ ≤ _; exact Nat.le_of_eq rfl) (hb hby at_56) (fun _ _ => ⟨rfl, e51, (by decide : 1 + 0 ≤ _), (by decide : 5 + 0 ≤ _)⟩)
    dsimp only [Pt.U, Pt.locs, Pt.cells, Pt.slots] at X52 l52 y52 z52 st52 hQ52
    subst l52 y52 z52
    obtain ⟨rfl, N52q, e52⟩ := hQ52
    have N52 := Fr.app N51 N52q
    have cp59_53 := V51
    obtain ⟨cl59_53, Ar59_53, qa59_53, Sa59_53, Na59_53, Ha59_53, Ga59_53⟩ := cp59_53
    have hin59_53 : ¬ ((3 : Int32) < 0 ∨ cl59_53.slots.size ≤ ((3 : Int32)).toNatClampNeg) := inb_of Sa59_53 ⟨by decide, by decide⟩
    obtain ⟨T54, h54, X54, e54, W54, st54⟩ := stZ X52 hx hZ e52 Ar59_53 (j := (3 : Int32)) hin59_53 (g := (mkF m 59 #[.val (.int p1), .val (.int p2), .val (.int (5 : Int32)), .val (.ref b42), .unset, .unset] [(.int (own_bit p2 (3 : Int32))), (.int (3 : Int32)), (.ref b42)])) rfl rfl (hb hby at_59)
    have V54 : Arv Z h54 b42 k42 .boolean (5 : Int32) [(.int (nar .boolean (own_bit p2 (0 : Int32)))), (.int (nar .boolean (own_bit p2 (1 : Int32)))), (.int (nar .boolean (own_bit p2 (2 : Int32)))), (.int (nar .boolean (own_bit p2 (3 : Int32)))), (.int (0 : Int32))] (.int (0 : Int32)) := Arv.set Ar59_53 qa59_53 Sa59_53 Na59_53 Ha59_53 Ga59_53 (fits_nar_bool _) W54 3 rfl (Nat.le_of_ble_eq_true rfl)
    have N54 := Fr.snoc X54 N52 g_b42
    have Z54 : n0 ≤ h54.size := Nat.le_trans Z51 (Keep.of_wr W54).1
    obtain ⟨_, _, ⟨T55, L55, k55, n55⟩, -, X55, ⟨Lc55, hQ55, l55, y55, z55⟩, st55⟩ := Jvm.LawKit.callS X54 hx (y := (⟨"com/example/braided_tour/braidedtour/choice/LogitAnyAvailablePinLaw", "bit", "(II)Z"⟩ : MethodName)) hown (mvT hZ (hw _ (List.mem_of_getElem? (i := 5) rfl))) (mvT hZ (hw _ (List.mem_of_getElem? (i := 6) rfl))) (mvT hZ (hw _ (List.mem_of_getElem? (i := 7) rfl))) (mvT hZ (hw _ (List.mem_of_getElem? (i := 8) rfl))) (by decide) (backOf (W := 2) (rm2 l Z a0 hw [] p2 (4 : Int32) h54 n0 Z54 ) hZ (hw _ (List.mem_of_getElem? (i := 8) rfl)) (hw _ (List.mem_of_getElem? (i := 7) rfl)) (by decide) (by decide)) (g := (mkF m 69 #[.val (.int p1), .val (.int p2), .val (.int (5 : Int32)), .val (.ref b42), .unset, .unset] [(.int (4 : Int32)), (.int p2), (.int (4 : Int32)), (.ref b42)])) rfl (by rw [hml]; rfl) (argsL := [(.int p2), (.int (4 : Int32))]) (rest := [(.int (4 : Int32)), (.ref b42)]) (lenOf pd0_1 rfl) rfl (by show 2 * 0 + _ ≤ _; exact Nat.le_of_eq rfl) (hb hby at_69) (fun _ _ => ⟨rfl, e54, (by decide : 1 + 0 ≤ _), (by decide : 5 + 0 ≤ _)⟩)
    dsimp only [Pt.U, Pt.locs, Pt.cells, Pt.slots] at X55 l55 y55 z55 st55 hQ55
    subst l55 y55 z55
    obtain ⟨rfl, N55q, e55⟩ := hQ55
    have N55 := Fr.app N54 N55q
    have cp72_56 := V54
    obtain ⟨cl72_56, Ar72_56, qa72_56, Sa72_56, Na72_56, Ha72_56, Ga72_56⟩ := cp72_56
    have hin72_56 : ¬ ((4 : Int32) < 0 ∨ cl72_56.slots.size ≤ ((4 : Int32)).toNatClampNeg) := inb_of Sa72_56 ⟨by decide, by decide⟩
    obtain ⟨T57, h57, X57, e57, W57, st57⟩ := stZ X55 hx hZ e55 Ar72_56 (j := (4 : Int32)) hin72_56 (g := (mkF m 72 #[.val (.int p1), .val (.int p2), .val (.int (5 : Int32)), .val (.ref b42), .unset, .unset] [(.int (own_bit p2 (4 : Int32))), (.int (4 : Int32)), (.ref b42)])) rfl rfl (hb hby at_72)
    have V57 : Arv Z h57 b42 k42 .boolean (5 : Int32) [(.int (nar .boolean (own_bit p2 (0 : Int32)))), (.int (nar .boolean (own_bit p2 (1 : Int32)))), (.int (nar .boolean (own_bit p2 (2 : Int32)))), (.int (nar .boolean (own_bit p2 (3 : Int32)))), (.int (nar .boolean (own_bit p2 (4 : Int32))))] (.int (0 : Int32)) := Arv.set Ar72_56 qa72_56 Sa72_56 Na72_56 Ha72_56 Ga72_56 (fits_nar_bool _) W57 4 rfl (Nat.le_of_ble_eq_true rfl)
    have N57 := Fr.snoc X57 N55 g_b42
    have Z57 : n0 ≤ h57.size := Nat.le_trans Z54 (Keep.of_wr W57).1
    obtain ⟨j111_S0k5, ej111_S0k5⟩ : ∃ z : Int32, z = (if (p2 &&& (((1 : Int32) <<< ((5 : Int32) &&& 31)) - (1 : Int32))) = (0 : Int32) then (0 : Int32) else (1 : Int32)) := ⟨_, rfl⟩
    have sg111k5 : ∀ t, Steps p.tables e below (T57.setTop (mkF m 121 #[.val (.int p1), .val (.int p2), .val (.int (5 : Int32)), .val (.ref b42), .val (.int (p2 &&& (((1 : Int32) <<< ((5 : Int32) &&& 31)) - (1 : Int32)))), .unset] [(.int j111_S0k5)])) t → Steps p.tables e below (T57.setTop (mkF m 111 #[.val (.int p1), .val (.int p2), .val (.int (5 : Int32)), .val (.ref b42), .val (.int (p2 &&& (((1 : Int32) <<< ((5 : Int32) &&& 31)) - (1 : Int32)))), .unset] [])) t := fun t kt => by
      show Steps p.tables e below (T57.setTop (mkF m 111 #[.val (.int p1), .val (.int p2), .val (.int (5 : Int32)), .val (.ref b42), .val (.int (p2 &&& (((1 : Int32) <<< ((5 : Int32) &&& 31)) - (1 : Int32)))), .unset] [])) _
      refine XS.iload X57.here hx rfl (hb hby at_111) rfl ?_
      by_cases hc113 : (p2 &&& (((1 : Int32) <<< ((5 : Int32) &&& 31)) - (1 : Int32))) = (0 : Int32)
      · have qj111_S0k5 : j111_S0k5 = (0 : Int32) := by rw [ej111_S0k5, if_pos hc113]
        rw [qj111_S0k5] at kt
        show Steps p.tables e below (T57.setTop (mkF m 113 #[.val (.int p1), .val (.int p2), .val (.int (5 : Int32)), .val (.ref b42), .val (.int (p2 &&& (((1 : Int32) <<< ((5 : Int32) &&& 31)) - (1 : Int32)))), .unset] [(.int (p2 &&& (((1 : Int32) <<< ((5 : Int32) &&& 31)) - (1 : Int32))))])) _
        refine XS.ifYes X57.here hx rfl (pc0 := 113) (pc' := 120) rfl (hb hby at_113) rfl ((if0 _ _).trans (teq hc113).1) (by decide) (by decide) ?_
        show Steps p.tables e below (T57.setTop (mkF m 120 #[.val (.int p1), .val (.int p2), .val (.int (5 : Int32)), .val (.ref b42), .val (.int (p2 &&& (((1 : Int32) <<< ((5 : Int32) &&& 31)) - (1 : Int32)))), .unset] [])) _
        refine XS.iconst X57.here hx rfl (hb hby at_120) ?_
        exact kt
      · have qj111_S0k5 : j111_S0k5 = (1 : Int32) := by rw [ej111_S0k5, if_neg hc113]
        rw [qj111_S0k5] at kt
        show Steps p.tables e below (T57.setTop (mkF m 113 #[.val (.int p1), .val (.int p2), .val (.int (5 : Int32)), .val (.ref b42), .val (.int (p2 &&& (((1 : Int32) <<< ((5 : Int32) &&& 31)) - (1 : Int32)))), .unset] [(.int (p2 &&& (((1 : Int32) <<< ((5 : Int32) &&& 31)) - (1 : Int32))))])) _
        refine XS.ifNo X57.here hx rfl (hb hby at_113) rfl ((if0 _ _).trans (feq hc113).1) ?_
        show Steps p.tables e below (T57.setTop (mkF m 116 #[.val (.int p1), .val (.int p2), .val (.int (5 : Int32)), .val (.ref b42), .val (.int (p2 &&& (((1 : Int32) <<< ((5 : Int32) &&& 31)) - (1 : Int32)))), .unset] [])) _
        refine XS.iconst X57.here hx rfl (hb hby at_116) ?_
        show Steps p.tables e below (T57.setTop (mkF m 117 #[.val (.int p1), .val (.int p2), .val (.int (5 : Int32)), .val (.ref b42), .val (.int (p2 &&& (((1 : Int32) <<< ((5 : Int32) &&& 31)) - (1 : Int32)))), .unset] [(.int (1 : Int32))])) _
        refine XS.goto X57.here hx rfl (pc0 := 117) (pc' := 121) rfl (hb hby at_117) (by decide) (by decide) ?_
        exact kt
    obtain ⟨_, _, ⟨T58, L58, k58, n58⟩, -, X58, ⟨Lc58, hQ58, l58, y58, z58⟩, st58⟩ := Jvm.LawKit.callS X57 hx (y := (⟨"com/example/braided_tour/braidedtour/choice/Logit", "anyAvailable", "([Z)Z"⟩ : MethodName)) hown (mvT hZ (hw _ (List.mem_of_getElem? (i := 1) rfl))) (mvT hZ (hw _ (List.mem_of_getElem? (i := 2) rfl))) (mvT hZ (hw _ (List.mem_of_getElem? (i := 3) rfl))) (mvT hZ (hw _ (List.mem_of_getElem? (i := 4) rfl))) (by decide) (backOf (W := 0) (rm1n5 l Z a0 hw [] b42 k42 (nar .boolean (own_bit p2 (0 : Int32))) (nar .boolean (own_bit p2 (1 : Int32))) (nar .boolean (own_bit p2 (2 : Int32))) (nar .boolean (own_bit p2 (3 : Int32))) (nar .boolean (own_bit p2 (4 : Int32))) h57 n0 Z57 V57) hZ (hw _ (List.mem_of_getElem? (i := 4) rfl)) (hw _ (List.mem_of_getElem? (i := 3) rfl)) (by decide) (by decide)) (g := (mkF m 124 #[.val (.int p1), .val (.int p2), .val (.int (5 : Int32)), .val (.ref b42), .val (.int (p2 &&& (((1 : Int32) <<< ((5 : Int32) &&& 31)) - (1 : Int32)))), .val (.int j111_S0k5)] [(.ref b42)])) rfl (by rw [hml]; rfl) (argsL := [(.ref b42)]) (rest := []) (lenOf pd0_0 rfl) rfl (by show 2 * 0 + _ ≤ _; exact Nat.le_of_eq rfl) (hb hby at_124) (fun _ _ => ⟨rfl, e57, (by decide : 1 + 0 ≤ _), (by decide : 5 + 0 ≤ _)⟩)
    dsimp only [Pt.U, Pt.locs, Pt.cells, Pt.slots] at X58 l58 y58 z58 st58 hQ58
    subst l58 y58 z58
    obtain ⟨rfl, N58q, e58⟩ := hQ58
    have N58 := Fr.app N57 N58q
    obtain ⟨fs, hr, hrun, hended, hW, hsame⟩ := X58.leave (v := some (.int (1 : Int32))) (fun h => by rw [Bd.returns] at h; cases h)
    refine ⟨_, _, c1 _ ?_, hrun, hended, _, _, rfl, ?_, ⟨_, rfl⟩, hW, hsame.mono (by decide) (by decide)⟩
    · show Steps p.tables e below (s₁.setTop (mkF m 5 #[.val (.int p1), .val (.int p2), .val (.int (5 : Int32)), .unset, .unset, .unset] [])) _
      refine XS.iloadN X0.here hx rfl (hb hby at_5) rfl ?_
      show Steps p.tables e below (s₁.setTop (mkF m 6 #[.val (.int p1), .val (.int p2), .val (.int (5 : Int32)), .unset, .unset, .unset] [(.int (5 : Int32))])) _
      refine st42 _ ?_
      show Steps p.tables e below (T42.setTop (mkF m 8 #[.val (.int p1), .val (.int p2), .val (.int (5 : Int32)), .unset, .unset, .unset] [(.ref b42)])) _
      refine XS.astoreN X42.here hx rfl (hb hby at_8) rfl rfl (l' := #[.val (.int p1), .val (.int p2), .val (.int (5 : Int32)), .val (.ref b42), .unset, .unset]) rfl ?_
      show Steps p.tables e below (T42.setTop (mkF m 9 #[.val (.int p1), .val (.int p2), .val (.int (5 : Int32)), .val (.ref b42), .unset, .unset] [])) _
      refine XS.iloadN X42.here hx rfl (hb hby at_9) rfl ?_
      show Steps p.tables e below (T42.setTop (mkF m 10 #[.val (.int p1), .val (.int p2), .val (.int (5 : Int32)), .val (.ref b42), .unset, .unset] [(.int (5 : Int32))])) _
      refine XS.ifNo X42.here hx rfl (hb hby at_10) rfl ((if0 _ _).trans (tlt (by decide)).2.2.2) ?_
      show Steps p.tables e below (T42.setTop (mkF m 13 #[.val (.int p1), .val (.int p2), .val (.int (5 : Int32)), .val (.ref b42), .unset, .unset] [])) _
      refine XS.aloadN X42.here hx rfl (hb hby at_13) rfl rfl ?_
      show Steps p.tables e below (T42.setTop (mkF m 14 #[.val (.int p1), .val (.int p2), .val (.int (5 : Int32)), .val (.ref b42), .unset, .unset] [(.ref b42)])) _
      refine XS.iconst X42.here hx rfl (hb hby at_14) ?_
      show Steps p.tables e below (T42.setTop (mkF m 15 #[.val (.int p1), .val (.int p2), .val (.int (5 : Int32)), .val (.ref b42), .unset, .unset] [(.int (0 : Int32)), (.ref b42)])) _
      refine XS.iloadN X42.here hx rfl (hb hby at_15) rfl ?_
      show Steps p.tables e below (T42.setTop (mkF m 16 #[.val (.int p1), .val (.int p2), .val (.int (5 : Int32)), .val (.ref b42), .unset, .unset] [(.int p2), (.int (0 : Int32)), (.ref b42)])) _
      refine XS.iconst X42.here hx rfl (hb hby at_16) ?_
      show Steps p.tables e below (T42.setTop (mkF m 17 #[.val (.int p1), .val (.int p2), .val (.int (5 : Int32)), .val (.ref b42), .unset, .unset] [(.int (0 : Int32)), (.int p2), (.int (0 : Int32)), (.ref b42)])) _
      refine st43 _ ?_
      show Steps p.tables e below (T43.setTop (mkF m 20 #[.val (.int p1), .val (.int p2), .val (.int (5 : Int32)), .val (.ref b42), .unset, .unset] [(.int (own_bit p2 (0 : Int32))), (.int (0 : Int32)), (.ref b42)])) _
      refine st45 _ ?_
      show Steps p.tables e below (T45.setTop (mkF m 21 #[.val (.int p1), .val (.int p2), .val (.int (5 : Int32)), .val (.ref b42), .unset, .unset] [])) _
      refine XS.iloadN X45.here hx rfl (hb hby at_21) rfl ?_
      show Steps p.tables e below (T45.setTop (mkF m 22 #[.val (.int p1), .val (.int p2), .val (.int (5 : Int32)), .val (.ref b42), .unset, .unset] [(.int (5 : Int32))])) _
      refine XS.iconst X45.here hx rfl (hb hby at_22) ?_
      show Steps p.tables e below (T45.setTop (mkF m 23 #[.val (.int p1), .val (.int p2), .val (.int (5 : Int32)), .val (.ref b42), .unset, .unset] [(.int (1 : Int32)), (.int (5 : Int32))])) _
      refine XS.icmpNo X45.here hx rfl (hb hby at_23) rfl (tlt (by decide)).2.2.2 ?_
      show Steps p.tables e below (T45.setTop (mkF m 26 #[.val (.int p1), .val (.int p2), .val (.int (5 : Int32)), .val (.ref b42), .unset, .unset] [])) _
      refine XS.aloadN X45.here hx rfl (hb hby at_26) rfl rfl ?_
      show Steps p.tables e below (T45.setTop (mkF m 27 #[.val (.int p1), .val (.int p2), .val (.int (5 : Int32)), .val (.ref b42), .unset, .unset] [(.ref b42)])) _
      refine XS.iconst X45.here hx rfl (hb hby at_27) ?_
      show Steps p.tables e below (T45.setTop (mkF m 28 #[.val (.int p1), .val (.int p2), .val (.int (5 : Int32)), .val (.ref b42), .unset, .unset] [(.int (1 : Int32)), (.ref b42)])) _
      refine XS.iloadN X45.here hx rfl (hb hby at_28) rfl ?_
      show Steps p.tables e below (T45.setTop (mkF m 29 #[.val (.int p1), .val (.int p2), .val (.int (5 : Int32)), .val (.ref b42), .unset, .unset] [(.int p2), (.int (1 : Int32)), (.ref b42)])) _
      refine XS.iconst X45.here hx rfl (hb hby at_29) ?_
      show Steps p.tables e below (T45.setTop (mkF m 30 #[.val (.int p1), .val (.int p2), .val (.int (5 : Int32)), .val (.ref b42), .unset, .unset] [(.int (1 : Int32)), (.int p2), (.int (1 : Int32)), (.ref b42)])) _
      refine st46 _ ?_
      show Steps p.tables e below (T46.setTop (mkF m 33 #[.val (.int p1), .val (.int p2), .val (.int (5 : Int32)), .val (.ref b42), .unset, .unset] [(.int (own_bit p2 (1 : Int32))), (.int (1 : Int32)), (.ref b42)])) _
      refine st48 _ ?_
      show Steps p.tables e below (T48.setTop (mkF m 34 #[.val (.int p1), .val (.int p2), .val (.int (5 : Int32)), .val (.ref b42), .unset, .unset] [])) _
      refine XS.iloadN X48.here hx rfl (hb hby at_34) rfl ?_
      show Steps p.tables e below (T48.setTop (mkF m 35 #[.val (.int p1), .val (.int p2), .val (.int (5 : Int32)), .val (.ref b42), .unset, .unset] [(.int (5 : Int32))])) _
      refine XS.iconst X48.here hx rfl (hb hby at_35) ?_
      show Steps p.tables e below (T48.setTop (mkF m 36 #[.val (.int p1), .val (.int p2), .val (.int (5 : Int32)), .val (.ref b42), .unset, .unset] [(.int (2 : Int32)), (.int (5 : Int32))])) _
      refine XS.icmpNo X48.here hx rfl (hb hby at_36) rfl (tlt (by decide)).2.2.2 ?_
      show Steps p.tables e below (T48.setTop (mkF m 39 #[.val (.int p1), .val (.int p2), .val (.int (5 : Int32)), .val (.ref b42), .unset, .unset] [])) _
      refine XS.aloadN X48.here hx rfl (hb hby at_39) rfl rfl ?_
      show Steps p.tables e below (T48.setTop (mkF m 40 #[.val (.int p1), .val (.int p2), .val (.int (5 : Int32)), .val (.ref b42), .unset, .unset] [(.ref b42)])) _
      refine XS.iconst X48.here hx rfl (hb hby at_40) ?_
      show Steps p.tables e below (T48.setTop (mkF m 41 #[.val (.int p1), .val (.int p2), .val (.int (5 : Int32)), .val (.ref b42), .unset, .unset] [(.int (2 : Int32)), (.ref b42)])) _
      refine XS.iloadN X48.here hx rfl (hb hby at_41) rfl ?_
      show Steps p.tables e below (T48.setTop (mkF m 42 #[.val (.int p1), .val (.int p2), .val (.int (5 : Int32)), .val (.ref b42), .unset, .unset] [(.int p2), (.int (2 : Int32)), (.ref b42)])) _
      refine XS.iconst X48.here hx rfl (hb hby at_42) ?_
      show Steps p.tables e below (T48.setTop (mkF m 43 #[.val (.int p1), .val (.int p2), .val (.int (5 : Int32)), .val (.ref b42), .unset, .unset] [(.int (2 : Int32)), (.int p2), (.int (2 : Int32)), (.ref b42)])) _
      refine st49 _ ?_
      show Steps p.tables e below (T49.setTop (mkF m 46 #[.val (.int p1), .val (.int p2), .val (.int (5 : Int32)), .val (.ref b42), .unset, .unset] [(.int (own_bit p2 (2 : Int32))), (.int (2 : Int32)), (.ref b42)])) _
      refine st51 _ ?_
      show Steps p.tables e below (T51.setTop (mkF m 47 #[.val (.int p1), .val (.int p2), .val (.int (5 : Int32)), .val (.ref b42), .unset, .unset] [])) _
      refine XS.iloadN X51.here hx rfl (hb hby at_47) rfl ?_
      show Steps p.tables e below (T51.setTop (mkF m 48 #[.val (.int p1), .val (.int p2), .val (.int (5 : Int32)), .val (.ref b42), .unset, .unset] [(.int (5 : Int32))])) _
      refine XS.iconst X51.here hx rfl (hb hby at_48) ?_
      show Steps p.tables e below (T51.setTop (mkF m 49 #[.val (.int p1), .val (.int p2), .val (.int (5 : Int32)), .val (.ref b42), .unset, .unset] [(.int (3 : Int32)), (.int (5 : Int32))])) _
      refine XS.icmpNo X51.here hx rfl (hb hby at_49) rfl (tlt (by decide)).2.2.2 ?_
      show Steps p.tables e below (T51.setTop (mkF m 52 #[.val (.int p1), .val (.int p2), .val (.int (5 : Int32)), .val (.ref b42), .unset, .unset] [])) _
      refine XS.aloadN X51.here hx rfl (hb hby at_52) rfl rfl ?_
      show Steps p.tables e below (T51.setTop (mkF m 53 #[.val (.int p1), .val (.int p2), .val (.int (5 : Int32)), .val (.ref b42), .unset, .unset] [(.ref b42)])) _
      refine XS.iconst X51.here hx rfl (hb hby at_53) ?_
      show Steps p.tables e below (T51.setTop (mkF m 54 #[.val (.int p1), .val (.int p2), .val (.int (5 : Int32)), .val (.ref b42), .unset, .unset] [(.int (3 : Int32)), (.ref b42)])) _
      refine XS.iloadN X51.here hx rfl (hb hby at_54) rfl ?_
      show Steps p.tables e below (T51.setTop (mkF m 55 #[.val (.int p1), .val (.int p2), .val (.int (5 : Int32)), .val (.ref b42), .unset, .unset] [(.int p2), (.int (3 : Int32)), (.ref b42)])) _
      refine XS.iconst X51.here hx rfl (hb hby at_55) ?_
      show Steps p.tables e below (T51.setTop (mkF m 56 #[.val (.int p1), .val (.int p2), .val (.int (5 : Int32)), .val (.ref b42), .unset, .unset] [(.int (3 : Int32)), (.int p2), (.int (3 : Int32)), (.ref b42)])) _
      refine st52 _ ?_
      show Steps p.tables e below (T52.setTop (mkF m 59 #[.val (.int p1), .val (.int p2), .val (.int (5 : Int32)), .val (.ref b42), .unset, .unset] [(.int (own_bit p2 (3 : Int32))), (.int (3 : Int32)), (.ref b42)])) _
      refine st54 _ ?_
      show Steps p.tables e below (T54.setTop (mkF m 60 #[.val (.int p1), .val (.int p2), .val (.int (5 : Int32)), .val (.ref b42), .unset, .unset] [])) _
      refine XS.iloadN X54.here hx rfl (hb hby at_60) rfl ?_
      show Steps p.tables e below (T54.setTop (mkF m 61 #[.val (.int p1), .val (.int p2), .val (.int (5 : Int32)), .val (.ref b42), .unset, .unset] [(.int (5 : Int32))])) _
      refine XS.iconst X54.here hx rfl (hb hby at_61) ?_
      show Steps p.tables e below (T54.setTop (mkF m 62 #[.val (.int p1), .val (.int p2), .val (.int (5 : Int32)), .val (.ref b42), .unset, .unset] [(.int (4 : Int32)), (.int (5 : Int32))])) _
      refine XS.icmpNo X54.here hx rfl (hb hby at_62) rfl (tlt (by decide)).2.2.2 ?_
      show Steps p.tables e below (T54.setTop (mkF m 65 #[.val (.int p1), .val (.int p2), .val (.int (5 : Int32)), .val (.ref b42), .unset, .unset] [])) _
      refine XS.aloadN X54.here hx rfl (hb hby at_65) rfl rfl ?_
      show Steps p.tables e below (T54.setTop (mkF m 66 #[.val (.int p1), .val (.int p2), .val (.int (5 : Int32)), .val (.ref b42), .unset, .unset] [(.ref b42)])) _
      refine XS.iconst X54.here hx rfl (hb hby at_66) ?_
      show Steps p.tables e below (T54.setTop (mkF m 67 #[.val (.int p1), .val (.int p2), .val (.int (5 : Int32)), .val (.ref b42), .unset, .unset] [(.int (4 : Int32)), (.ref b42)])) _
      refine XS.iloadN X54.here hx rfl (hb hby at_67) rfl ?_
      show Steps p.tables e below (T54.setTop (mkF m 68 #[.val (.int p1), .val (.int p2), .val (.int (5 : Int32)), .val (.ref b42), .unset, .unset] [(.int p2), (.int (4 : Int32)), (.ref b42)])) _
      refine XS.iconst X54.here hx rfl (hb hby at_68) ?_
      show Steps p.tables e below (T54.setTop (mkF m 69 #[.val (.int p1), .val (.int p2), .val (.int (5 : Int32)), .val (.ref b42), .unset, .unset] [(.int (4 : Int32)), (.int p2), (.int (4 : Int32)), (.ref b42)])) _
      refine st55 _ ?_
      show Steps p.tables e below (T55.setTop (mkF m 72 #[.val (.int p1), .val (.int p2), .val (.int (5 : Int32)), .val (.ref b42), .unset, .unset] [(.int (own_bit p2 (4 : Int32))), (.int (4 : Int32)), (.ref b42)])) _
      refine st57 _ ?_
      show Steps p.tables e below (T57.setTop (mkF m 73 #[.val (.int p1), .val (.int p2), .val (.int (5 : Int32)), .val (.ref b42), .unset, .unset] [])) _
      refine XS.iloadN X57.here hx rfl (hb hby at_73) rfl ?_
      show Steps p.tables e below (T57.setTop (mkF m 74 #[.val (.int p1), .val (.int p2), .val (.int (5 : Int32)), .val (.ref b42), .unset, .unset] [(.int (5 : Int32))])) _
      refine XS.iconst X57.here hx rfl (hb hby at_74) ?_
      show Steps p.tables e below (T57.setTop (mkF m 75 #[.val (.int p1), .val (.int p2), .val (.int (5 : Int32)), .val (.ref b42), .unset, .unset] [(.int (5 : Int32)), (.int (5 : Int32))])) _
      refine XS.icmpYes X57.here hx rfl (pc0 := 75) (pc' := 86) rfl (hb hby at_75) rfl (flt (by decide)).2.2.2 (by decide) (by decide) ?_
      show Steps p.tables e below (T57.setTop (mkF m 86 #[.val (.int p1), .val (.int p2), .val (.int (5 : Int32)), .val (.ref b42), .unset, .unset] [])) _
      refine XS.iloadN X57.here hx rfl (hb hby at_86) rfl ?_
      show Steps p.tables e below (T57.setTop (mkF m 87 #[.val (.int p1), .val (.int p2), .val (.int (5 : Int32)), .val (.ref b42), .unset, .unset] [(.int (5 : Int32))])) _
      refine XS.bipush X57.here hx rfl (hb hby at_87) ?_
      show Steps p.tables e below (T57.setTop (mkF m 89 #[.val (.int p1), .val (.int p2), .val (.int (5 : Int32)), .val (.ref b42), .unset, .unset] [(.int (6 : Int32)), (.int (5 : Int32))])) _
      refine XS.icmpYes X57.here hx rfl (pc0 := 89) (pc' := 102) rfl (hb hby at_89) rfl (flt (by decide)).2.2.2 (by decide) (by decide) ?_
      show Steps p.tables e below (T57.setTop (mkF m 102 #[.val (.int p1), .val (.int p2), .val (.int (5 : Int32)), .val (.ref b42), .unset, .unset] [])) _
      refine XS.iloadN X57.here hx rfl (hb hby at_102) rfl ?_
      show Steps p.tables e below (T57.setTop (mkF m 103 #[.val (.int p1), .val (.int p2), .val (.int (5 : Int32)), .val (.ref b42), .unset, .unset] [(.int p2)])) _
      refine XS.iconst X57.here hx rfl (hb hby at_103) ?_
      show Steps p.tables e below (T57.setTop (mkF m 104 #[.val (.int p1), .val (.int p2), .val (.int (5 : Int32)), .val (.ref b42), .unset, .unset] [(.int (1 : Int32)), (.int p2)])) _
      refine XS.iloadN X57.here hx rfl (hb hby at_104) rfl ?_
      show Steps p.tables e below (T57.setTop (mkF m 105 #[.val (.int p1), .val (.int p2), .val (.int (5 : Int32)), .val (.ref b42), .unset, .unset] [(.int (5 : Int32)), (.int (1 : Int32)), (.int p2)])) _
      refine XS.ishl X57.here hx rfl (hb hby at_105) rfl ?_
      show Steps p.tables e below (T57.setTop (mkF m 106 #[.val (.int p1), .val (.int p2), .val (.int (5 : Int32)), .val (.ref b42), .unset, .unset] [(.int ((1 : Int32) <<< ((5 : Int32) &&& 31))), (.int p2)])) _
      refine XS.iconst X57.here hx rfl (hb hby at_106) ?_
      show Steps p.tables e below (T57.setTop (mkF m 107 #[.val (.int p1), .val (.int p2), .val (.int (5 : Int32)), .val (.ref b42), .unset, .unset] [(.int (1 : Int32)), (.int ((1 : Int32) <<< ((5 : Int32) &&& 31))), (.int p2)])) _
      refine XS.isub X57.here hx rfl (hb hby at_107) rfl ?_
      show Steps p.tables e below (T57.setTop (mkF m 108 #[.val (.int p1), .val (.int p2), .val (.int (5 : Int32)), .val (.ref b42), .unset, .unset] [(.int (((1 : Int32) <<< ((5 : Int32) &&& 31)) - (1 : Int32))), (.int p2)])) _
      refine XS.iand X57.here hx rfl (hb hby at_108) rfl ?_
      show Steps p.tables e below (T57.setTop (mkF m 109 #[.val (.int p1), .val (.int p2), .val (.int (5 : Int32)), .val (.ref b42), .unset, .unset] [(.int (p2 &&& (((1 : Int32) <<< ((5 : Int32) &&& 31)) - (1 : Int32))))])) _
      refine XS.istore X57.here hx rfl (hb hby at_109) rfl (l' := #[.val (.int p1), .val (.int p2), .val (.int (5 : Int32)), .val (.ref b42), .val (.int (p2 &&& (((1 : Int32) <<< ((5 : Int32) &&& 31)) - (1 : Int32)))), .unset]) rfl ?_
      show Steps p.tables e below (T57.setTop (mkF m 111 #[.val (.int p1), .val (.int p2), .val (.int (5 : Int32)), .val (.ref b42), .val (.int (p2 &&& (((1 : Int32) <<< ((5 : Int32) &&& 31)) - (1 : Int32)))), .unset] [])) _
      refine sg111k5 _ ?_
      show Steps p.tables e below (T57.setTop (mkF m 121 #[.val (.int p1), .val (.int p2), .val (.int (5 : Int32)), .val (.ref b42), .val (.int (p2 &&& (((1 : Int32) <<< ((5 : Int32) &&& 31)) - (1 : Int32)))), .unset] [(.int j111_S0k5)])) _
      refine XS.istore X57.here hx rfl (hb hby at_121) rfl (l' := #[.val (.int p1), .val (.int p2), .val (.int (5 : Int32)), .val (.ref b42), .val (.int (p2 &&& (((1 : Int32) <<< ((5 : Int32) &&& 31)) - (1 : Int32)))), .val (.int j111_S0k5)]) rfl ?_
      show Steps p.tables e below (T57.setTop (mkF m 123 #[.val (.int p1), .val (.int p2), .val (.int (5 : Int32)), .val (.ref b42), .val (.int (p2 &&& (((1 : Int32) <<< ((5 : Int32) &&& 31)) - (1 : Int32)))), .val (.int j111_S0k5)] [])) _
      refine XS.aloadN X57.here hx rfl (hb hby at_123) rfl rfl ?_
      show Steps p.tables e below (T57.setTop (mkF m 124 #[.val (.int p1), .val (.int p2), .val (.int (5 : Int32)), .val (.ref b42), .val (.int (p2 &&& (((1 : Int32) <<< ((5 : Int32) &&& 31)) - (1 : Int32)))), .val (.int j111_S0k5)] [(.ref b42)])) _
      refine st58 _ ?_
      show Steps p.tables e below (T58.setTop (mkF m 127 #[.val (.int p1), .val (.int p2), .val (.int (5 : Int32)), .val (.ref b42), .val (.int (p2 &&& (((1 : Int32) <<< ((5 : Int32) &&& 31)) - (1 : Int32)))), .val (.int j111_S0k5)] [(.int (own_any5 (nar .boolean (own_bit p2 (0 : Int32))) (nar .boolean (own_bit p2 (1 : Int32))) (nar .boolean (own_bit p2 (2 : Int32))) (nar .boolean (own_bit p2 (3 : Int32))) (nar .boolean (own_bit p2 (4 : Int32)))))])) _
      refine XS.iload X58.here hx rfl (hb hby at_127) rfl ?_
      show Steps p.tables e below (T58.setTop (mkF m 129 #[.val (.int p1), .val (.int p2), .val (.int (5 : Int32)), .val (.ref b42), .val (.int (p2 &&& (((1 : Int32) <<< ((5 : Int32) &&& 31)) - (1 : Int32)))), .val (.int j111_S0k5)] [(.int j111_S0k5), (.int (own_any5 (nar .boolean (own_bit p2 (0 : Int32))) (nar .boolean (own_bit p2 (1 : Int32))) (nar .boolean (own_bit p2 (2 : Int32))) (nar .boolean (own_bit p2 (3 : Int32))) (nar .boolean (own_bit p2 (4 : Int32)))))])) _
      refine XS.icmpNo X58.here hx rfl (hb hby at_129) rfl (teq ((own_all5 p2).trans ej111_S0k5.symm)).2 ?_
      show Steps p.tables e below (T58.setTop (mkF m 132 #[.val (.int p1), .val (.int p2), .val (.int (5 : Int32)), .val (.ref b42), .val (.int (p2 &&& (((1 : Int32) <<< ((5 : Int32) &&& 31)) - (1 : Int32)))), .val (.int j111_S0k5)] [])) _
      refine XS.iconst X58.here hx rfl (hb hby at_132) ?_
      show Steps p.tables e below (T58.setTop (mkF m 133 #[.val (.int p1), .val (.int p2), .val (.int (5 : Int32)), .val (.ref b42), .val (.int (p2 &&& (((1 : Int32) <<< ((5 : Int32) &&& 31)) - (1 : Int32)))), .val (.int j111_S0k5)] [(.int (1 : Int32))])) _
      refine XS.goto X58.here hx rfl (pc0 := 133) (pc' := 137) rfl (hb hby at_133) (by decide) (by decide) ?_
      show Steps p.tables e below (T58.setTop (mkF m 137 #[.val (.int p1), .val (.int p2), .val (.int (5 : Int32)), .val (.ref b42), .val (.int (p2 &&& (((1 : Int32) <<< ((5 : Int32) &&& 31)) - (1 : Int32)))), .val (.int j111_S0k5)] [(.int (1 : Int32))])) _
      exact retN X58 hx (t := .boolean) Bd.returns (by simp) (hb hby at_137) hr
    · show Q0 Z p1 p2 h0 n0 _ T58.heap _
      rw [e58]
      exact ⟨rfl, N58⟩
  · rw [hk] at c1
    obtain ⟨T59, h59, k59, X59, e59, E59, A59, st59⟩ := newP X0 hx hZ (hw _ (List.mem_of_getElem? (i := 0) rfl)) e0 (g := (mkF m 6 #[.val (.int p1), .val (.int p2), .val (.int (6 : Int32)), .unset, .unset, .unset] [(.int (6 : Int32))])) rfl (hb hby at_6) rfl (by decide) (cap := 6) (by decide) (by decide) (by decide) (by decide)
    obtain ⟨b59, g59⟩ : ∃ z, z = h0.size := ⟨_, rfl⟩
    rw [← g59] at A59 st59
    have g_b59 : n0 ≤ b59 := Nat.le_trans Z0 (Nat.le_of_eq g59.symm)
    have Z59 : n0 ≤ h59.size := Nat.le_trans Z0 E59.1
    have V59 : Arv Z h59 b59 k59 .boolean (6 : Int32) [(.int (0 : Int32)), (.int (0 : Int32)), (.int (0 : Int32)), (.int (0 : Int32)), (.int (0 : Int32)), (.int (0 : Int32))] (.int (0 : Int32)) := (Arv.new A59 (by decide)).pad (pad_rep [] (.int (0 : Int32)) 6)
    obtain ⟨_, _, ⟨T60, L60, k60, n60⟩, -, X60, ⟨Lc60, hQ60, l60, y60, z60⟩, st60⟩ := Jvm.LawKit.callS X59 hx (y := (⟨"com/example/braided_tour/braidedtour/choice/LogitAnyAvailablePinLaw", "bit", "(II)Z"⟩ : MethodName)) hown (mvT hZ (hw _ (List.mem_of_getElem? (i := 5) rfl))) (mvT hZ (hw _ (List.mem_of_getElem? (i := 6) rfl))) (mvT hZ (hw _ (List.mem_of_getElem? (i := 7) rfl))) (mvT hZ (hw _ (List.mem_of_getElem? (i := 8) rfl))) (by decide) (backOf (W := 2) (rm2 l Z a0 hw [] p2 (0 : Int32) h59 n0 Z59 ) hZ (hw _ (List.mem_of_getElem? (i := 8) rfl)) (hw _ (List.mem_of_getElem? (i := 7) rfl)) (by decide) (by decide)) (g := (mkF m 17 #[.val (.int p1), .val (.int p2), .val (.int (6 : Int32)), .val (.ref b59), .unset, .unset] [(.int (0 : Int32)), (.int p2), (.int (0 : Int32)), (.ref b59)])) rfl (by rw [hml]; rfl) (argsL := [(.int p2), (.int (0 : Int32))]) (rest := [(.int (0 : Int32)), (.ref b59)]) (lenOf pd0_1 rfl) rfl (by show 2 * 0 + _ ≤ _; exact Nat.le_of_eq rfl) (hb hby at_17) (fun _ _ => ⟨rfl, e59, (by decide : 1 + 0 ≤ _), (by decide : 6 + 0 ≤ _)⟩)
    dsimp only [Pt.U, Pt.locs, Pt.cells, Pt.slots] at X60 l60 y60 z60 st60 hQ60
    subst l60 y60 z60
    obtain ⟨rfl, N60q, e60⟩ := hQ60
    have N60 := Fr.app N0 N60q
    have cp20_61 := V59
    obtain ⟨cl20_61, Ar20_61, qa20_61, Sa20_61, Na20_61, Ha20_61, Ga20_61⟩ := cp20_61
    have hin20_61 : ¬ ((0 : Int32) < 0 ∨ cl20_61.slots.size ≤ ((0 : Int32)).toNatClampNeg) := inb_of Sa20_61 ⟨by decide, by decide⟩
    obtain ⟨T62, h62, X62, e62, W62, st62⟩ := stZ X60 hx hZ e60 Ar20_61 (j := (0 : Int32)) hin20_61 (g := (mkF m 20 #[.val (.int p1), .val (.int p2), .val (.int (6 : Int32)), .val (.ref b59), .unset, .unset] [(.int (own_bit p2 (0 : Int32))), (.int (0 : Int32)), (.ref b59)])) rfl rfl (hb hby at_20)
    have V62 : Arv Z h62 b59 k59 .boolean (6 : Int32) [(.int (nar .boolean (own_bit p2 (0 : Int32)))), (.int (0 : Int32)), (.int (0 : Int32)), (.int (0 : Int32)), (.int (0 : Int32)), (.int (0 : Int32))] (.int (0 : Int32)) := Arv.set Ar20_61 qa20_61 Sa20_61 Na20_61 Ha20_61 Ga20_61 (fits_nar_bool _) W62 0 rfl (Nat.le_of_ble_eq_true rfl)
    have N62 := Fr.snoc X62 N60 g_b59
    have Z62 : n0 ≤ h62.size := Nat.le_trans Z59 (Keep.of_wr W62).1
    obtain ⟨_, _, ⟨T63, L63, k63, n63⟩, -, X63, ⟨Lc63, hQ63, l63, y63, z63⟩, st63⟩ := Jvm.LawKit.callS X62 hx (y := (⟨"com/example/braided_tour/braidedtour/choice/LogitAnyAvailablePinLaw", "bit", "(II)Z"⟩ : MethodName)) hown (mvT hZ (hw _ (List.mem_of_getElem? (i := 5) rfl))) (mvT hZ (hw _ (List.mem_of_getElem? (i := 6) rfl))) (mvT hZ (hw _ (List.mem_of_getElem? (i := 7) rfl))) (mvT hZ (hw _ (List.mem_of_getElem? (i := 8) rfl))) (by decide) (backOf (W := 2) (rm2 l Z a0 hw [] p2 (1 : Int32) h62 n0 Z62 ) hZ (hw _ (List.mem_of_getElem? (i := 8) rfl)) (hw _ (List.mem_of_getElem? (i := 7) rfl)) (by decide) (by decide)) (g := (mkF m 30 #[.val (.int p1), .val (.int p2), .val (.int (6 : Int32)), .val (.ref b59), .unset, .unset] [(.int (1 : Int32)), (.int p2), (.int (1 : Int32)), (.ref b59)])) rfl (by rw [hml]; rfl) (argsL := [(.int p2), (.int (1 : Int32))]) (rest := [(.int (1 : Int32)), (.ref b59)]) (lenOf pd0_1 rfl) rfl (by show 2 * 0 + _ ≤ _; exact Nat.le_of_eq rfl) (hb hby at_30) (fun _ _ => ⟨rfl, e62, (by decide : 1 + 0 ≤ _), (by decide : 6 + 0 ≤ _)⟩)
    dsimp only [Pt.U, Pt.locs, Pt.cells, Pt.slots] at X63 l63 y63 z63 st63 hQ63
    subst l63 y63 z63
    obtain ⟨rfl, N63q, e63⟩ := hQ63
    have N63 := Fr.app N62 N63q
    have cp33_64 := V62
    obtain ⟨cl33_64, Ar33_64, qa33_64, Sa33_64, Na33_64, Ha33_64, Ga33_64⟩ := cp33_64
    have hin33_64 : ¬ ((1 : Int32) < 0 ∨ cl33_64.slots.size ≤ ((1 : Int32)).toNatClampNeg) := inb_of Sa33_64 ⟨by decide, by decide⟩
    obtain ⟨T65, h65, X65, e65, W65, st65⟩ := stZ X63 hx hZ e63 Ar33_64 (j := (1 : Int32)) hin33_64 (g := (mkF m 33 #[.val (.int p1), .val (.int p2), .val (.int (6 : Int32)), .val (.ref b59), .unset, .unset] [(.int (own_bit p2 (1 : Int32))), (.int (1 : Int32)), (.ref b59)])) rfl rfl (hb hby at_33)
    have V65 : Arv Z h65 b59 k59 .boolean (6 : Int32) [(.int (nar .boolean (own_bit p2 (0 : Int32)))), (.int (nar .boolean (own_bit p2 (1 : Int32)))), (.int (0 : Int32)), (.int (0 : Int32)), (.int (0 : Int32)), (.int (0 : Int32))] (.int (0 : Int32)) := Arv.set Ar33_64 qa33_64 Sa33_64 Na33_64 Ha33_64 Ga33_64 (fits_nar_bool _) W65 1 rfl (Nat.le_of_ble_eq_true rfl)
    have N65 := Fr.snoc X65 N63 g_b59
    have Z65 : n0 ≤ h65.size := Nat.le_trans Z62 (Keep.of_wr W65).1
    obtain ⟨_, _, ⟨T66, L66, k66, n66⟩, -, X66, ⟨Lc66, hQ66, l66, y66, z66⟩, st66⟩ := Jvm.LawKit.callS X65 hx (y := (⟨"com/example/braided_tour/braidedtour/choice/LogitAnyAvailablePinLaw", "bit", "(II)Z"⟩ : MethodName)) hown (mvT hZ (hw _ (List.mem_of_getElem? (i := 5) rfl))) (mvT hZ (hw _ (List.mem_of_getElem? (i := 6) rfl))) (mvT hZ (hw _ (List.mem_of_getElem? (i := 7) rfl))) (mvT hZ (hw _ (List.mem_of_getElem? (i := 8) rfl))) (by decide) (backOf (W := 2) (rm2 l Z a0 hw [] p2 (2 : Int32) h65 n0 Z65 ) hZ (hw _ (List.mem_of_getElem? (i := 8) rfl)) (hw _ (List.mem_of_getElem? (i := 7) rfl)) (by decide) (by decide)) (g := (mkF m 43 #[.val (.int p1), .val (.int p2), .val (.int (6 : Int32)), .val (.ref b59), .unset, .unset] [(.int (2 : Int32)), (.int p2), (.int (2 : Int32)), (.ref b59)])) rfl (by rw [hml]; rfl) (argsL := [(.int p2), (.int (2 : Int32))]) (rest := [(.int (2 : Int32)), (.ref b59)]) (lenOf pd0_1 rfl) rfl (by show 2 * 0 + _ ≤ _; exact Nat.le_of_eq rfl) (hb hby at_43) (fun _ _ => ⟨rfl, e65, (by decide : 1 + 0 ≤ _), (by decide : 6 + 0 ≤ _)⟩)
    dsimp only [Pt.U, Pt.locs, Pt.cells, Pt.slots] at X66 l66 y66 z66 st66 hQ66
    subst l66 y66 z66
    obtain ⟨rfl, N66q, e66⟩ := hQ66
    have N66 := Fr.app N65 N66q
    have cp46_67 := V65
    obtain ⟨cl46_67, Ar46_67, qa46_67, Sa46_67, Na46_67, Ha46_67, Ga46_67⟩ := cp46_67
    have hin46_67 : ¬ ((2 : Int32) < 0 ∨ cl46_67.slots.size ≤ ((2 : Int32)).toNatClampNeg) := inb_of Sa46_67 ⟨by decide, by decide⟩
    obtain ⟨T68, h68, X68, e68, W68, st68⟩ := stZ X66 hx hZ e66 Ar46_67 (j := (2 : Int32)) hin46_67 (g := (mkF m 46 #[.val (.int p1), .val (.int p2), .val (.int (6 : Int32)), .val (.ref b59), .unset, .unset] [(.int (own_bit p2 (2 : Int32))), (.int (2 : Int32)), (.ref b59)])) rfl rfl (hb hby at_46)
    have V68 : Arv Z h68 b59 k59 .boolean (6 : Int32) [(.int (nar .boolean (own_bit p2 (0 : Int32)))), (.int (nar .boolean (own_bit p2 (1 : Int32)))), (.int (nar .boolean (own_bit p2 (2 : Int32)))), (.int (0 : Int32)), (.int (0 : Int32)), (.int (0 : Int32))] (.int (0 : Int32)) := Arv.set Ar46_67 qa46_67 Sa46_67 Na46_67 Ha46_67 Ga46_67 (fits_nar_bool _) W68 2 rfl (Nat.le_of_ble_eq_true rfl)
    have N68 := Fr.snoc X68 N66 g_b59
    have Z68 : n0 ≤ h68.size := Nat.le_trans Z65 (Keep.of_wr W68).1
    obtain ⟨_, _, ⟨T69, L69, k69, n69⟩, -, X69, ⟨Lc69, hQ69, l69, y69, z69⟩, st69⟩ := Jvm.LawKit.callS X68 hx (y := (⟨"com/example/braided_tour/braidedtour/choice/LogitAnyAvailablePinLaw", "bit", "(II)Z"⟩ : MethodName)) hown (mvT hZ (hw _ (List.mem_of_getElem? (i := 5) rfl))) (mvT hZ (hw _ (List.mem_of_getElem? (i := 6) rfl))) (mvT hZ (hw _ (List.mem_of_getElem? (i := 7) rfl))) (mvT hZ (hw _ (List.mem_of_getElem? (i := 8) rfl))) (by decide) (backOf (W := 2) (rm2 l Z a0 hw [] p2 (3 : Int32) h68 n0 Z68 ) hZ (hw _ (List.mem_of_getElem? (i := 8) rfl)) (hw _ (List.mem_of_getElem? (i := 7) rfl)) (by decide) (by decide)) (g := (mkF m 56 #[.val (.int p1), .val (.int p2), .val (.int (6 : Int32)), .val (.ref b59), .unset, .unset] [(.int (3 : Int32)), (.int p2), (.int (3 : Int32)), (.ref b59)])) rfl (by rw [hml]; rfl) (argsL := [(.int p2), (.int (3 : Int32))]) (rest := [(.int (3 : Int32)), (.ref b59)]) (lenOf pd0_1 rfl) rfl (by show 2 * 0 + _ ≤ _; exact Nat.le_of_eq rfl) (hb hby at_56) (fun _ _ => ⟨rfl, e68, (by decide : 1 + 0 ≤ _), (by decide : 6 + 0 ≤ _)⟩)
    dsimp only [Pt.U, Pt.locs, Pt.cells, Pt.slots] at X69 l69 y69 z69 st69 hQ69
    subst l69 y69 z69
    obtain ⟨rfl, N69q, e69⟩ := hQ69
    have N69 := Fr.app N68 N69q
    have cp59_70 := V68
    obtain ⟨cl59_70, Ar59_70, qa59_70, Sa59_70, Na59_70, Ha59_70, Ga59_70⟩ := cp59_70
    have hin59_70 : ¬ ((3 : Int32) < 0 ∨ cl59_70.slots.size ≤ ((3 : Int32)).toNatClampNeg) := inb_of Sa59_70 ⟨by decide, by decide⟩
    obtain ⟨T71, h71, X71, e71, W71, st71⟩ := stZ X69 hx hZ e69 Ar59_70 (j := (3 : Int32)) hin59_70 (g := (mkF m 59 #[.val (.int p1), .val (.int p2), .val (.int (6 : Int32)), .val (.ref b59), .unset, .unset] [(.int (own_bit p2 (3 : Int32))), (.int (3 : Int32)), (.ref b59)])) rfl rfl (hb hby at_59)
    have V71 : Arv Z h71 b59 k59 .boolean (6 : Int32) [(.int (nar .boolean (own_bit p2 (0 : Int32)))), (.int (nar .boolean (own_bit p2 (1 : Int32)))), (.int (nar .boolean (own_bit p2 (2 : Int32)))), (.int (nar .boolean (own_bit p2 (3 : Int32)))), (.int (0 : Int32)), (.int (0 : Int32))] (.int (0 : Int32)) := Arv.set Ar59_70 qa59_70 Sa59_70 Na59_70 Ha59_70 Ga59_70 (fits_nar_bool _) W71 3 rfl (Nat.le_of_ble_eq_true rfl)
    have N71 := Fr.snoc X71 N69 g_b59
    have Z71 : n0 ≤ h71.size := Nat.le_trans Z68 (Keep.of_wr W71).1
    obtain ⟨_, _, ⟨T72, L72, k72, n72⟩, -, X72, ⟨Lc72, hQ72, l72, y72, z72⟩, st72⟩ := Jvm.LawKit.callS X71 hx (y := (⟨"com/example/braided_tour/braidedtour/choice/LogitAnyAvailablePinLaw", "bit", "(II)Z"⟩ : MethodName)) hown (mvT hZ (hw _ (List.mem_of_getElem? (i := 5) rfl))) (mvT hZ (hw _ (List.mem_of_getElem? (i := 6) rfl))) (mvT hZ (hw _ (List.mem_of_getElem? (i := 7) rfl))) (mvT hZ (hw _ (List.mem_of_getElem? (i := 8) rfl))) (by decide) (backOf (W := 2) (rm2 l Z a0 hw [] p2 (4 : Int32) h71 n0 Z71 ) hZ (hw _ (List.mem_of_getElem? (i := 8) rfl)) (hw _ (List.mem_of_getElem? (i := 7) rfl)) (by decide) (by decide)) (g := (mkF m 69 #[.val (.int p1), .val (.int p2), .val (.int (6 : Int32)), .val (.ref b59), .unset, .unset] [(.int (4 : Int32)), (.int p2), (.int (4 : Int32)), (.ref b59)])) rfl (by rw [hml]; rfl) (argsL := [(.int p2), (.int (4 : Int32))]) (rest := [(.int (4 : Int32)), (.ref b59)]) (lenOf pd0_1 rfl) rfl (by show 2 * 0 + _ ≤ _; exact Nat.le_of_eq rfl) (hb hby at_69) (fun _ _ => ⟨rfl, e71, (by decide : 1 + 0 ≤ _), (by decide : 6 + 0 ≤ _)⟩)
    dsimp only [Pt.U, Pt.locs, Pt.cells, Pt.slots] at X72 l72 y72 z72 st72 hQ72
    subst l72 y72 z72
    obtain ⟨rfl, N72q, e72⟩ := hQ72
    have N72 := Fr.app N71 N72q
    have cp72_73 := V71
    obtain ⟨cl72_73, Ar72_73, qa72_73, Sa72_73, Na72_73, Ha72_73, Ga72_73⟩ := cp72_73
    have hin72_73 : ¬ ((4 : Int32) < 0 ∨ cl72_73.slots.size ≤ ((4 : Int32)).toNatClampNeg) := inb_of Sa72_73 ⟨by decide, by decide⟩
    obtain ⟨T74, h74, X74, e74, W74, st74⟩ := stZ X72 hx hZ e72 Ar72_73 (j := (4 : Int32)) hin72_73 (g := (mkF m 72 #[.val (.int p1), .val (.int p2), .val (.int (6 : Int32)), .val (.ref b59), .unset, .unset] [(.int (own_bit p2 (4 : Int32))), (.int (4 : Int32)), (.ref b59)])) rfl rfl (hb hby at_72)
    have V74 : Arv Z h74 b59 k59 .boolean (6 : Int32) [(.int (nar .boolean (own_bit p2 (0 : Int32)))), (.int (nar .boolean (own_bit p2 (1 : Int32)))), (.int (nar .boolean (own_bit p2 (2 : Int32)))), (.int (nar .boolean (own_bit p2 (3 : Int32)))), (.int (nar .boolean (own_bit p2 (4 : Int32)))), (.int (0 : Int32))] (.int (0 : Int32)) := Arv.set Ar72_73 qa72_73 Sa72_73 Na72_73 Ha72_73 Ga72_73 (fits_nar_bool _) W74 4 rfl (Nat.le_of_ble_eq_true rfl)
    have N74 := Fr.snoc X74 N72 g_b59
    have Z74 : n0 ≤ h74.size := Nat.le_trans Z71 (Keep.of_wr W74).1
    obtain ⟨_, _, ⟨T75, L75, k75, n75⟩, -, X75, ⟨Lc75, hQ75, l75, y75, z75⟩, st75⟩ := Jvm.LawKit.callS X74 hx (y := (⟨"com/example/braided_tour/braidedtour/choice/LogitAnyAvailablePinLaw", "bit", "(II)Z"⟩ : MethodName)) hown (mvT hZ (hw _ (List.mem_of_getElem? (i := 5) rfl))) (mvT hZ (hw _ (List.mem_of_getElem? (i := 6) rfl))) (mvT hZ (hw _ (List.mem_of_getElem? (i := 7) rfl))) (mvT hZ (hw _ (List.mem_of_getElem? (i := 8) rfl))) (by decide) (backOf (W := 2) (rm2 l Z a0 hw [] p2 (5 : Int32) h74 n0 Z74 ) hZ (hw _ (List.mem_of_getElem? (i := 8) rfl)) (hw _ (List.mem_of_getElem? (i := 7) rfl)) (by decide) (by decide)) (g := (mkF m 82 #[.val (.int p1), .val (.int p2), .val (.int (6 : Int32)), .val (.ref b59), .unset, .unset] [(.int (5 : Int32)), (.int p2), (.int (5 : Int32)), (.ref b59)])) rfl (by rw [hml]; rfl) (argsL := [(.int p2), (.int (5 : Int32))]) (rest := [(.int (5 : Int32)), (.ref b59)]) (lenOf pd0_1 rfl) rfl (by show 2 * 0 + _ ≤ _; exact Nat.le_of_eq rfl) (hb hby at_82) (fun _ _ => ⟨rfl, e74, (by decide : 1 + 0 ≤ _), (by decide : 6 + 0 ≤ _)⟩)
    dsimp only [Pt.U, Pt.locs, Pt.cells, Pt.slots] at X75 l75 y75 z75 st75 hQ75
    subst l75 y75 z75
    obtain ⟨rfl, N75q, e75⟩ := hQ75
    have N75 := Fr.app N74 N75q
    have cp85_76 := V74
    obtain ⟨cl85_76, Ar85_76, qa85_76, Sa85_76, Na85_76, Ha85_76, Ga85_76⟩ := cp85_76
    have hin85_76 : ¬ ((5 : Int32) < 0 ∨ cl85_76.slots.size ≤ ((5 : Int32)).toNatClampNeg) := inb_of Sa85_76 ⟨by decide, by decide⟩
    obtain ⟨T77, h77, X77, e77, W77, st77⟩ := stZ X75 hx hZ e75 Ar85_76 (j := (5 : Int32)) hin85_76 (g := (mkF m 85 #[.val (.int p1), .val (.int p2), .val (.int (6 : Int32)), .val (.ref b59), .unset, .unset] [(.int (own_bit p2 (5 : Int32))), (.int (5 : Int32)), (.ref b59)])) rfl rfl (hb hby at_85)
    have V77 : Arv Z h77 b59 k59 .boolean (6 : Int32) [(.int (nar .boolean (own_bit p2 (0 : Int32)))), (.int (nar .boolean (own_bit p2 (1 : Int32)))), (.int (nar .boolean (own_bit p2 (2 : Int32)))), (.int (nar .boolean (own_bit p2 (3 : Int32)))), (.int (nar .boolean (own_bit p2 (4 : Int32)))), (.int (nar .boolean (own_bit p2 (5 : Int32))))] (.int (0 : Int32)) := Arv.set Ar85_76 qa85_76 Sa85_76 Na85_76 Ha85_76 Ga85_76 (fits_nar_bool _) W77 5 rfl (Nat.le_of_ble_eq_true rfl)
    have N77 := Fr.snoc X77 N75 g_b59
    have Z77 : n0 ≤ h77.size := Nat.le_trans Z74 (Keep.of_wr W77).1
    obtain ⟨j111_S0k6, ej111_S0k6⟩ : ∃ z : Int32, z = (if (p2 &&& (((1 : Int32) <<< ((6 : Int32) &&& 31)) - (1 : Int32))) = (0 : Int32) then (0 : Int32) else (1 : Int32)) := ⟨_, rfl⟩
    have sg111k6 : ∀ t, Steps p.tables e below (T77.setTop (mkF m 121 #[.val (.int p1), .val (.int p2), .val (.int (6 : Int32)), .val (.ref b59), .val (.int (p2 &&& (((1 : Int32) <<< ((6 : Int32) &&& 31)) - (1 : Int32)))), .unset] [(.int j111_S0k6)])) t → Steps p.tables e below (T77.setTop (mkF m 111 #[.val (.int p1), .val (.int p2), .val (.int (6 : Int32)), .val (.ref b59), .val (.int (p2 &&& (((1 : Int32) <<< ((6 : Int32) &&& 31)) - (1 : Int32)))), .unset] [])) t := fun t kt => by
      show Steps p.tables e below (T77.setTop (mkF m 111 #[.val (.int p1), .val (.int p2), .val (.int (6 : Int32)), .val (.ref b59), .val (.int (p2 &&& (((1 : Int32) <<< ((6 : Int32) &&& 31)) - (1 : Int32)))), .unset] [])) _
      refine XS.iload X77.here hx rfl (hb hby at_111) rfl ?_
      by_cases hc113 : (p2 &&& (((1 : Int32) <<< ((6 : Int32) &&& 31)) - (1 : Int32))) = (0 : Int32)
      · have qj111_S0k6 : j111_S0k6 = (0 : Int32) := by rw [ej111_S0k6, if_pos hc113]
        rw [qj111_S0k6] at kt
        show Steps p.tables e below (T77.setTop (mkF m 113 #[.val (.int p1), .val (.int p2), .val (.int (6 : Int32)), .val (.ref b59), .val (.int (p2 &&& (((1 : Int32) <<< ((6 : Int32) &&& 31)) - (1 : Int32)))), .unset] [(.int (p2 &&& (((1 : Int32) <<< ((6 : Int32) &&& 31)) - (1 : Int32))))])) _
        refine XS.ifYes X77.here hx rfl (pc0 := 113) (pc' := 120) rfl (hb hby at_113) rfl ((if0 _ _).trans (teq hc113).1) (by decide) (by decide) ?_
        show Steps p.tables e below (T77.setTop (mkF m 120 #[.val (.int p1), .val (.int p2), .val (.int (6 : Int32)), .val (.ref b59), .val (.int (p2 &&& (((1 : Int32) <<< ((6 : Int32) &&& 31)) - (1 : Int32)))), .unset] [])) _
        refine XS.iconst X77.here hx rfl (hb hby at_120) ?_
        exact kt
      · have qj111_S0k6 : j111_S0k6 = (1 : Int32) := by rw [ej111_S0k6, if_neg hc113]
        rw [qj111_S0k6] at kt
        show Steps p.tables e below (T77.setTop (mkF m 113 #[.val (.int p1), .val (.int p2), .val (.int (6 : Int32)), .val (.ref b59), .val (.int (p2 &&& (((1 : Int32) <<< ((6 : Int32) &&& 31)) - (1 : Int32)))), .unset] [(.int (p2 &&& (((1 : Int32) <<< ((6 : Int32) &&& 31)) - (1 : Int32))))])) _
        refine XS.ifNo X77.here hx rfl (hb hby at_113) rfl ((if0 _ _).trans (feq hc113).1) ?_
        show Steps p.tables e below (T77.setTop (mkF m 116 #[.val (.int p1), .val (.int p2), .val (.int (6 : Int32)), .val (.ref b59), .val (.int (p2 &&& (((1 : Int32) <<< ((6 : Int32) &&& 31)) - (1 : Int32)))), .unset] [])) _
        refine XS.iconst X77.here hx rfl (hb hby at_116) ?_
        show Steps p.tables e below (T77.setTop (mkF m 117 #[.val (.int p1), .val (.int p2), .val (.int (6 : Int32)), .val (.ref b59), .val (.int (p2 &&& (((1 : Int32) <<< ((6 : Int32) &&& 31)) - (1 : Int32)))), .unset] [(.int (1 : Int32))])) _
        refine XS.goto X77.here hx rfl (pc0 := 117) (pc' := 121) rfl (hb hby at_117) (by decide) (by decide) ?_
        exact kt
    obtain ⟨_, _, ⟨T78, L78, k78, n78⟩, -, X78, ⟨Lc78, hQ78, l78, y78, z78⟩, st78⟩ := Jvm.LawKit.callS X77 hx (y := (⟨"com/example/braided_tour/braidedtour/choice/Logit", "anyAvailable", "([Z)Z"⟩ : MethodName)) hown (mvT hZ (hw _ (List.mem_of_getElem? (i := 1) rfl))) (mvT hZ (hw _ (List.mem_of_getElem? (i := 2) rfl))) (mvT hZ (hw _ (List.mem_of_getElem? (i := 3) rfl))) (mvT hZ (hw _ (List.mem_of_getElem? (i := 4) rfl))) (by decide) (backOf (W := 0) (rm1n6 l Z a0 hw [] b59 k59 (nar .boolean (own_bit p2 (0 : Int32))) (nar .boolean (own_bit p2 (1 : Int32))) (nar .boolean (own_bit p2 (2 : Int32))) (nar .boolean (own_bit p2 (3 : Int32))) (nar .boolean (own_bit p2 (4 : Int32))) (nar .boolean (own_bit p2 (5 : Int32))) h77 n0 Z77 V77) hZ (hw _ (List.mem_of_getElem? (i := 4) rfl)) (hw _ (List.mem_of_getElem? (i := 3) rfl)) (by decide) (by decide)) (g := (mkF m 124 #[.val (.int p1), .val (.int p2), .val (.int (6 : Int32)), .val (.ref b59), .val (.int (p2 &&& (((1 : Int32) <<< ((6 : Int32) &&& 31)) - (1 : Int32)))), .val (.int j111_S0k6)] [(.ref b59)])) rfl (by rw [hml]; rfl) (argsL := [(.ref b59)]) (rest := []) (lenOf pd0_0 rfl) rfl (by show 2 * 0 + _ ≤ _; exact Nat.le_of_eq rfl) (hb hby at_124) (fun _ _ => ⟨rfl, e77, (by decide : 1 + 0 ≤ _), (by decide : 6 + 0 ≤ _)⟩)
    dsimp only [Pt.U, Pt.locs, Pt.cells, Pt.slots] at X78 l78 y78 z78 st78 hQ78
    subst l78 y78 z78
    obtain ⟨rfl, N78q, e78⟩ := hQ78
    have N78 := Fr.app N77 N78q
    obtain ⟨fs, hr, hrun, hended, hW, hsame⟩ := X78.leave (v := some (.int (1 : Int32))) (fun h => by rw [Bd.returns] at h; cases h)
    refine ⟨_, _, c1 _ ?_, hrun, hended, _, _, rfl, ?_, ⟨_, rfl⟩, hW, hsame.mono (by decide) (by decide)⟩
    · show Steps p.tables e below (s₁.setTop (mkF m 5 #[.val (.int p1), .val (.int p2), .val (.int (6 : Int32)), .unset, .unset, .unset] [])) _
      refine XS.iloadN X0.here hx rfl (hb hby at_5) rfl ?_
      show Steps p.tables e below (s₁.setTop (mkF m 6 #[.val (.int p1), .val (.int p2), .val (.int (6 : Int32)), .unset, .unset, .unset] [(.int (6 : Int32))])) _
      refine st59 _ ?_
      show Steps p.tables e below (T59.setTop (mkF m 8 #[.val (.int p1), .val (.int p2), .val (.int (6 : Int32)), .unset, .unset, .unset] [(.ref b59)])) _
      refine XS.astoreN X59.here hx rfl (hb hby at_8) rfl rfl (l' := #[.val (.int p1), .val (.int p2), .val (.int (6 : Int32)), .val (.ref b59), .unset, .unset]) rfl ?_
      show Steps p.tables e below (T59.setTop (mkF m 9 #[.val (.int p1), .val (.int p2), .val (.int (6 : Int32)), .val (.ref b59), .unset, .unset] [])) _
      refine XS.iloadN X59.here hx rfl (hb hby at_9) rfl ?_
      show Steps p.tables e below (T59.setTop (mkF m 10 #[.val (.int p1), .val (.int p2), .val (.int (6 : Int32)), .val (.ref b59), .unset, .unset] [(.int (6 : Int32))])) _
      refine XS.ifNo X59.here hx rfl (hb hby at_10) rfl ((if0 _ _).trans (tlt (by decide)).2.2.2) ?_
      show Steps p.tables e below (T59.setTop (mkF m 13 #[.val (.int p1), .val (.int p2), .val (.int (6 : Int32)), .val (.ref b59), .unset, .unset] [])) _
      refine XS.aloadN X59.here hx rfl (hb hby at_13) rfl rfl ?_
      show Steps p.tables e below (T59.setTop (mkF m 14 #[.val (.int p1), .val (.int p2), .val (.int (6 : Int32)), .val (.ref b59), .unset, .unset] [(.ref b59)])) _
      refine XS.iconst X59.here hx rfl (hb hby at_14) ?_
      show Steps p.tables e below (T59.setTop (mkF m 15 #[.val (.int p1), .val (.int p2), .val (.int (6 : Int32)), .val (.ref b59), .unset, .unset] [(.int (0 : Int32)), (.ref b59)])) _
      refine XS.iloadN X59.here hx rfl (hb hby at_15) rfl ?_
      show Steps p.tables e below (T59.setTop (mkF m 16 #[.val (.int p1), .val (.int p2), .val (.int (6 : Int32)), .val (.ref b59), .unset, .unset] [(.int p2), (.int (0 : Int32)), (.ref b59)])) _
      refine XS.iconst X59.here hx rfl (hb hby at_16) ?_
      show Steps p.tables e below (T59.setTop (mkF m 17 #[.val (.int p1), .val (.int p2), .val (.int (6 : Int32)), .val (.ref b59), .unset, .unset] [(.int (0 : Int32)), (.int p2), (.int (0 : Int32)), (.ref b59)])) _
      refine st60 _ ?_
      show Steps p.tables e below (T60.setTop (mkF m 20 #[.val (.int p1), .val (.int p2), .val (.int (6 : Int32)), .val (.ref b59), .unset, .unset] [(.int (own_bit p2 (0 : Int32))), (.int (0 : Int32)), (.ref b59)])) _
      refine st62 _ ?_
      show Steps p.tables e below (T62.setTop (mkF m 21 #[.val (.int p1), .val (.int p2), .val (.int (6 : Int32)), .val (.ref b59), .unset, .unset] [])) _
      refine XS.iloadN X62.here hx rfl (hb hby at_21) rfl ?_
      show Steps p.tables e below (T62.setTop (mkF m 22 #[.val (.int p1), .val (.int p2), .val (.int (6 : Int32)), .val (.ref b59), .unset, .unset] [(.int (6 : Int32))])) _
      refine XS.iconst X62.here hx rfl (hb hby at_22) ?_
      show Steps p.tables e below (T62.setTop (mkF m 23 #[.val (.int p1), .val (.int p2), .val (.int (6 : Int32)), .val (.ref b59), .unset, .unset] [(.int (1 : Int32)), (.int (6 : Int32))])) _
      refine XS.icmpNo X62.here hx rfl (hb hby at_23) rfl (tlt (by decide)).2.2.2 ?_
      show Steps p.tables e below (T62.setTop (mkF m 26 #[.val (.int p1), .val (.int p2), .val (.int (6 : Int32)), .val (.ref b59), .unset, .unset] [])) _
      refine XS.aloadN X62.here hx rfl (hb hby at_26) rfl rfl ?_
      show Steps p.tables e below (T62.setTop (mkF m 27 #[.val (.int p1), .val (.int p2), .val (.int (6 : Int32)), .val (.ref b59), .unset, .unset] [(.ref b59)])) _
      refine XS.iconst X62.here hx rfl (hb hby at_27) ?_
      show Steps p.tables e below (T62.setTop (mkF m 28 #[.val (.int p1), .val (.int p2), .val (.int (6 : Int32)), .val (.ref b59), .unset, .unset] [(.int (1 : Int32)), (.ref b59)])) _
      refine XS.iloadN X62.here hx rfl (hb hby at_28) rfl ?_
      show Steps p.tables e below (T62.setTop (mkF m 29 #[.val (.int p1), .val (.int p2), .val (.int (6 : Int32)), .val (.ref b59), .unset, .unset] [(.int p2), (.int (1 : Int32)), (.ref b59)])) _
      refine XS.iconst X62.here hx rfl (hb hby at_29) ?_
      show Steps p.tables e below (T62.setTop (mkF m 30 #[.val (.int p1), .val (.int p2), .val (.int (6 : Int32)), .val (.ref b59), .unset, .unset] [(.int (1 : Int32)), (.int p2), (.int (1 : Int32)), (.ref b59)])) _
      refine st63 _ ?_
      show Steps p.tables e below (T63.setTop (mkF m 33 #[.val (.int p1), .val (.int p2), .val (.int (6 : Int32)), .val (.ref b59), .unset, .unset] [(.int (own_bit p2 (1 : Int32))), (.int (1 : Int32)), (.ref b59)])) _
      refine st65 _ ?_
      show Steps p.tables e below (T65.setTop (mkF m 34 #[.val (.int p1), .val (.int p2), .val (.int (6 : Int32)), .val (.ref b59), .unset, .unset] [])) _
      refine XS.iloadN X65.here hx rfl (hb hby at_34) rfl ?_
      show Steps p.tables e below (T65.setTop (mkF m 35 #[.val (.int p1), .val (.int p2), .val (.int (6 : Int32)), .val (.ref b59), .unset, .unset] [(.int (6 : Int32))])) _
      refine XS.iconst X65.here hx rfl (hb hby at_35) ?_
      show Steps p.tables e below (T65.setTop (mkF m 36 #[.val (.int p1), .val (.int p2), .val (.int (6 : Int32)), .val (.ref b59), .unset, .unset] [(.int (2 : Int32)), (.int (6 : Int32))])) _
      refine XS.icmpNo X65.here hx rfl (hb hby at_36) rfl (tlt (by decide)).2.2.2 ?_
      show Steps p.tables e below (T65.setTop (mkF m 39 #[.val (.int p1), .val (.int p2), .val (.int (6 : Int32)), .val (.ref b59), .unset, .unset] [])) _
      refine XS.aloadN X65.here hx rfl (hb hby at_39) rfl rfl ?_
      show Steps p.tables e below (T65.setTop (mkF m 40 #[.val (.int p1), .val (.int p2), .val (.int (6 : Int32)), .val (.ref b59), .unset, .unset] [(.ref b59)])) _
      refine XS.iconst X65.here hx rfl (hb hby at_40) ?_
      show Steps p.tables e below (T65.setTop (mkF m 41 #[.val (.int p1), .val (.int p2), .val (.int (6 : Int32)), .val (.ref b59), .unset, .unset] [(.int (2 : Int32)), (.ref b59)])) _
      refine XS.iloadN X65.here hx rfl (hb hby at_41) rfl ?_
      show Steps p.tables e below (T65.setTop (mkF m 42 #[.val (.int p1), .val (.int p2), .val (.int (6 : Int32)), .val (.ref b59), .unset, .unset] [(.int p2), (.int (2 : Int32)), (.ref b59)])) _
      refine XS.iconst X65.here hx rfl (hb hby at_42) ?_
      show Steps p.tables e below (T65.setTop (mkF m 43 #[.val (.int p1), .val (.int p2), .val (.int (6 : Int32)), .val (.ref b59), .unset, .unset] [(.int (2 : Int32)), (.int p2), (.int (2 : Int32)), (.ref b59)])) _
      refine st66 _ ?_
      show Steps p.tables e below (T66.setTop (mkF m 46 #[.val (.int p1), .val (.int p2), .val (.int (6 : Int32)), .val (.ref b59), .unset, .unset] [(.int (own_bit p2 (2 : Int32))), (.int (2 : Int32)), (.ref b59)])) _
      refine st68 _ ?_
      show Steps p.tables e below (T68.setTop (mkF m 47 #[.val (.int p1), .val (.int p2), .val (.int (6 : Int32)), .val (.ref b59), .unset, .unset] [])) _
      refine XS.iloadN X68.here hx rfl (hb hby at_47) rfl ?_
      show Steps p.tables e below (T68.setTop (mkF m 48 #[.val (.int p1), .val (.int p2), .val (.int (6 : Int32)), .val (.ref b59), .unset, .unset] [(.int (6 : Int32))])) _
      refine XS.iconst X68.here hx rfl (hb hby at_48) ?_
      show Steps p.tables e below (T68.setTop (mkF m 49 #[.val (.int p1), .val (.int p2), .val (.int (6 : Int32)), .val (.ref b59), .unset, .unset] [(.int (3 : Int32)), (.int (6 : Int32))])) _
      refine XS.icmpNo X68.here hx rfl (hb hby at_49) rfl (tlt (by decide)).2.2.2 ?_
      show Steps p.tables e below (T68.setTop (mkF m 52 #[.val (.int p1), .val (.int p2), .val (.int (6 : Int32)), .val (.ref b59), .unset, .unset] [])) _
      refine XS.aloadN X68.here hx rfl (hb hby at_52) rfl rfl ?_
      show Steps p.tables e below (T68.setTop (mkF m 53 #[.val (.int p1), .val (.int p2), .val (.int (6 : Int32)), .val (.ref b59), .unset, .unset] [(.ref b59)])) _
      refine XS.iconst X68.here hx rfl (hb hby at_53) ?_
      show Steps p.tables e below (T68.setTop (mkF m 54 #[.val (.int p1), .val (.int p2), .val (.int (6 : Int32)), .val (.ref b59), .unset, .unset] [(.int (3 : Int32)), (.ref b59)])) _
      refine XS.iloadN X68.here hx rfl (hb hby at_54) rfl ?_
      show Steps p.tables e below (T68.setTop (mkF m 55 #[.val (.int p1), .val (.int p2), .val (.int (6 : Int32)), .val (.ref b59), .unset, .unset] [(.int p2), (.int (3 : Int32)), (.ref b59)])) _
      refine XS.iconst X68.here hx rfl (hb hby at_55) ?_
      show Steps p.tables e below (T68.setTop (mkF m 56 #[.val (.int p1), .val (.int p2), .val (.int (6 : Int32)), .val (.ref b59), .unset, .unset] [(.int (3 : Int32)), (.int p2), (.int (3 : Int32)), (.ref b59)])) _
      refine st69 _ ?_
      show Steps p.tables e below (T69.setTop (mkF m 59 #[.val (.int p1), .val (.int p2), .val (.int (6 : Int32)), .val (.ref b59), .unset, .unset] [(.int (own_bit p2 (3 : Int32))), (.int (3 : Int32)), (.ref b59)])) _
      refine st71 _ ?_
      show Steps p.tables e below (T71.setTop (mkF m 60 #[.val (.int p1), .val (.int p2), .val (.int (6 : Int32)), .val (.ref b59), .unset, .unset] [])) _
      refine XS.iloadN X71.here hx rfl (hb hby at_60) rfl ?_
      show Steps p.tables e below (T71.setTop (mkF m 61 #[.val (.int p1), .val (.int p2), .val (.int (6 : Int32)), .val (.ref b59), .unset, .unset] [(.int (6 : Int32))])) _
      refine XS.iconst X71.here hx rfl (hb hby at_61) ?_
      show Steps p.tables e below (T71.setTop (mkF m 62 #[.val (.int p1), .val (.int p2), .val (.int (6 : Int32)), .val (.ref b59), .unset, .unset] [(.int (4 : Int32)), (.int (6 : Int32))])) _
      refine XS.icmpNo X71.here hx rfl (hb hby at_62) rfl (tlt (by decide)).2.2.2 ?_
      show Steps p.tables e below (T71.setTop (mkF m 65 #[.val (.int p1), .val (.int p2), .val (.int (6 : Int32)), .val (.ref b59), .unset, .unset] [])) _
      refine XS.aloadN X71.here hx rfl (hb hby at_65) rfl rfl ?_
      show Steps p.tables e below (T71.setTop (mkF m 66 #[.val (.int p1), .val (.int p2), .val (.int (6 : Int32)), .val (.ref b59), .unset, .unset] [(.ref b59)])) _
      refine XS.iconst X71.here hx rfl (hb hby at_66) ?_
      show Steps p.tables e below (T71.setTop (mkF m 67 #[.val (.int p1), .val (.int p2), .val (.int (6 : Int32)), .val (.ref b59), .unset, .unset] [(.int (4 : Int32)), (.ref b59)])) _
      refine XS.iloadN X71.here hx rfl (hb hby at_67) rfl ?_
      show Steps p.tables e below (T71.setTop (mkF m 68 #[.val (.int p1), .val (.int p2), .val (.int (6 : Int32)), .val (.ref b59), .unset, .unset] [(.int p2), (.int (4 : Int32)), (.ref b59)])) _
      refine XS.iconst X71.here hx rfl (hb hby at_68) ?_
      show Steps p.tables e below (T71.setTop (mkF m 69 #[.val (.int p1), .val (.int p2), .val (.int (6 : Int32)), .val (.ref b59), .unset, .unset] [(.int (4 : Int32)), (.int p2), (.int (4 : Int32)), (.ref b59)])) _
      refine st72 _ ?_
      show Steps p.tables e below (T72.setTop (mkF m 72 #[.val (.int p1), .val (.int p2), .val (.int (6 : Int32)), .val (.ref b59), .unset, .unset] [(.int (own_bit p2 (4 : Int32))), (.int (4 : Int32)), (.ref b59)])) _
      refine st74 _ ?_
      show Steps p.tables e below (T74.setTop (mkF m 73 #[.val (.int p1), .val (.int p2), .val (.int (6 : Int32)), .val (.ref b59), .unset, .unset] [])) _
      refine XS.iloadN X74.here hx rfl (hb hby at_73) rfl ?_
      show Steps p.tables e below (T74.setTop (mkF m 74 #[.val (.int p1), .val (.int p2), .val (.int (6 : Int32)), .val (.ref b59), .unset, .unset] [(.int (6 : Int32))])) _
      refine XS.iconst X74.here hx rfl (hb hby at_74) ?_
      show Steps p.tables e below (T74.setTop (mkF m 75 #[.val (.int p1), .val (.int p2), .val (.int (6 : Int32)), .val (.ref b59), .unset, .unset] [(.int (5 : Int32)), (.int (6 : Int32))])) _
      refine XS.icmpNo X74.here hx rfl (hb hby at_75) rfl (tlt (by decide)).2.2.2 ?_
      show Steps p.tables e below (T74.setTop (mkF m 78 #[.val (.int p1), .val (.int p2), .val (.int (6 : Int32)), .val (.ref b59), .unset, .unset] [])) _
      refine XS.aloadN X74.here hx rfl (hb hby at_78) rfl rfl ?_
      show Steps p.tables e below (T74.setTop (mkF m 79 #[.val (.int p1), .val (.int p2), .val (.int (6 : Int32)), .val (.ref b59), .unset, .unset] [(.ref b59)])) _
      refine XS.iconst X74.here hx rfl (hb hby at_79) ?_
      show Steps p.tables e below (T74.setTop (mkF m 80 #[.val (.int p1), .val (.int p2), .val (.int (6 : Int32)), .val (.ref b59), .unset, .unset] [(.int (5 : Int32)), (.ref b59)])) _
      refine XS.iloadN X74.here hx rfl (hb hby at_80) rfl ?_
      show Steps p.tables e below (T74.setTop (mkF m 81 #[.val (.int p1), .val (.int p2), .val (.int (6 : Int32)), .val (.ref b59), .unset, .unset] [(.int p2), (.int (5 : Int32)), (.ref b59)])) _
      refine XS.iconst X74.here hx rfl (hb hby at_81) ?_
      show Steps p.tables e below (T74.setTop (mkF m 82 #[.val (.int p1), .val (.int p2), .val (.int (6 : Int32)), .val (.ref b59), .unset, .unset] [(.int (5 : Int32)), (.int p2), (.int (5 : Int32)), (.ref b59)])) _
      refine st75 _ ?_
      show Steps p.tables e below (T75.setTop (mkF m 85 #[.val (.int p1), .val (.int p2), .val (.int (6 : Int32)), .val (.ref b59), .unset, .unset] [(.int (own_bit p2 (5 : Int32))), (.int (5 : Int32)), (.ref b59)])) _
      refine st77 _ ?_
      show Steps p.tables e below (T77.setTop (mkF m 86 #[.val (.int p1), .val (.int p2), .val (.int (6 : Int32)), .val (.ref b59), .unset, .unset] [])) _
      refine XS.iloadN X77.here hx rfl (hb hby at_86) rfl ?_
      show Steps p.tables e below (T77.setTop (mkF m 87 #[.val (.int p1), .val (.int p2), .val (.int (6 : Int32)), .val (.ref b59), .unset, .unset] [(.int (6 : Int32))])) _
      refine XS.bipush X77.here hx rfl (hb hby at_87) ?_
      show Steps p.tables e below (T77.setTop (mkF m 89 #[.val (.int p1), .val (.int p2), .val (.int (6 : Int32)), .val (.ref b59), .unset, .unset] [(.int (6 : Int32)), (.int (6 : Int32))])) _
      refine XS.icmpYes X77.here hx rfl (pc0 := 89) (pc' := 102) rfl (hb hby at_89) rfl (flt (by decide)).2.2.2 (by decide) (by decide) ?_
      show Steps p.tables e below (T77.setTop (mkF m 102 #[.val (.int p1), .val (.int p2), .val (.int (6 : Int32)), .val (.ref b59), .unset, .unset] [])) _
      refine XS.iloadN X77.here hx rfl (hb hby at_102) rfl ?_
      show Steps p.tables e below (T77.setTop (mkF m 103 #[.val (.int p1), .val (.int p2), .val (.int (6 : Int32)), .val (.ref b59), .unset, .unset] [(.int p2)])) _
      refine XS.iconst X77.here hx rfl (hb hby at_103) ?_
      show Steps p.tables e below (T77.setTop (mkF m 104 #[.val (.int p1), .val (.int p2), .val (.int (6 : Int32)), .val (.ref b59), .unset, .unset] [(.int (1 : Int32)), (.int p2)])) _
      refine XS.iloadN X77.here hx rfl (hb hby at_104) rfl ?_
      show Steps p.tables e below (T77.setTop (mkF m 105 #[.val (.int p1), .val (.int p2), .val (.int (6 : Int32)), .val (.ref b59), .unset, .unset] [(.int (6 : Int32)), (.int (1 : Int32)), (.int p2)])) _
      refine XS.ishl X77.here hx rfl (hb hby at_105) rfl ?_
      show Steps p.tables e below (T77.setTop (mkF m 106 #[.val (.int p1), .val (.int p2), .val (.int (6 : Int32)), .val (.ref b59), .unset, .unset] [(.int ((1 : Int32) <<< ((6 : Int32) &&& 31))), (.int p2)])) _
      refine XS.iconst X77.here hx rfl (hb hby at_106) ?_
      show Steps p.tables e below (T77.setTop (mkF m 107 #[.val (.int p1), .val (.int p2), .val (.int (6 : Int32)), .val (.ref b59), .unset, .unset] [(.int (1 : Int32)), (.int ((1 : Int32) <<< ((6 : Int32) &&& 31))), (.int p2)])) _
      refine XS.isub X77.here hx rfl (hb hby at_107) rfl ?_
      show Steps p.tables e below (T77.setTop (mkF m 108 #[.val (.int p1), .val (.int p2), .val (.int (6 : Int32)), .val (.ref b59), .unset, .unset] [(.int (((1 : Int32) <<< ((6 : Int32) &&& 31)) - (1 : Int32))), (.int p2)])) _
      refine XS.iand X77.here hx rfl (hb hby at_108) rfl ?_
      show Steps p.tables e below (T77.setTop (mkF m 109 #[.val (.int p1), .val (.int p2), .val (.int (6 : Int32)), .val (.ref b59), .unset, .unset] [(.int (p2 &&& (((1 : Int32) <<< ((6 : Int32) &&& 31)) - (1 : Int32))))])) _
      refine XS.istore X77.here hx rfl (hb hby at_109) rfl (l' := #[.val (.int p1), .val (.int p2), .val (.int (6 : Int32)), .val (.ref b59), .val (.int (p2 &&& (((1 : Int32) <<< ((6 : Int32) &&& 31)) - (1 : Int32)))), .unset]) rfl ?_
      show Steps p.tables e below (T77.setTop (mkF m 111 #[.val (.int p1), .val (.int p2), .val (.int (6 : Int32)), .val (.ref b59), .val (.int (p2 &&& (((1 : Int32) <<< ((6 : Int32) &&& 31)) - (1 : Int32)))), .unset] [])) _
      refine sg111k6 _ ?_
      show Steps p.tables e below (T77.setTop (mkF m 121 #[.val (.int p1), .val (.int p2), .val (.int (6 : Int32)), .val (.ref b59), .val (.int (p2 &&& (((1 : Int32) <<< ((6 : Int32) &&& 31)) - (1 : Int32)))), .unset] [(.int j111_S0k6)])) _
      refine XS.istore X77.here hx rfl (hb hby at_121) rfl (l' := #[.val (.int p1), .val (.int p2), .val (.int (6 : Int32)), .val (.ref b59), .val (.int (p2 &&& (((1 : Int32) <<< ((6 : Int32) &&& 31)) - (1 : Int32)))), .val (.int j111_S0k6)]) rfl ?_
      show Steps p.tables e below (T77.setTop (mkF m 123 #[.val (.int p1), .val (.int p2), .val (.int (6 : Int32)), .val (.ref b59), .val (.int (p2 &&& (((1 : Int32) <<< ((6 : Int32) &&& 31)) - (1 : Int32)))), .val (.int j111_S0k6)] [])) _
      refine XS.aloadN X77.here hx rfl (hb hby at_123) rfl rfl ?_
      show Steps p.tables e below (T77.setTop (mkF m 124 #[.val (.int p1), .val (.int p2), .val (.int (6 : Int32)), .val (.ref b59), .val (.int (p2 &&& (((1 : Int32) <<< ((6 : Int32) &&& 31)) - (1 : Int32)))), .val (.int j111_S0k6)] [(.ref b59)])) _
      refine st78 _ ?_
      show Steps p.tables e below (T78.setTop (mkF m 127 #[.val (.int p1), .val (.int p2), .val (.int (6 : Int32)), .val (.ref b59), .val (.int (p2 &&& (((1 : Int32) <<< ((6 : Int32) &&& 31)) - (1 : Int32)))), .val (.int j111_S0k6)] [(.int (own_any6 (nar .boolean (own_bit p2 (0 : Int32))) (nar .boolean (own_bit p2 (1 : Int32))) (nar .boolean (own_bit p2 (2 : Int32))) (nar .boolean (own_bit p2 (3 : Int32))) (nar .boolean (own_bit p2 (4 : Int32))) (nar .boolean (own_bit p2 (5 : Int32)))))])) _
      refine XS.iload X78.here hx rfl (hb hby at_127) rfl ?_
      show Steps p.tables e below (T78.setTop (mkF m 129 #[.val (.int p1), .val (.int p2), .val (.int (6 : Int32)), .val (.ref b59), .val (.int (p2 &&& (((1 : Int32) <<< ((6 : Int32) &&& 31)) - (1 : Int32)))), .val (.int j111_S0k6)] [(.int j111_S0k6), (.int (own_any6 (nar .boolean (own_bit p2 (0 : Int32))) (nar .boolean (own_bit p2 (1 : Int32))) (nar .boolean (own_bit p2 (2 : Int32))) (nar .boolean (own_bit p2 (3 : Int32))) (nar .boolean (own_bit p2 (4 : Int32))) (nar .boolean (own_bit p2 (5 : Int32)))))])) _
      refine XS.icmpNo X78.here hx rfl (hb hby at_129) rfl (teq ((own_all6 p2).trans ej111_S0k6.symm)).2 ?_
      show Steps p.tables e below (T78.setTop (mkF m 132 #[.val (.int p1), .val (.int p2), .val (.int (6 : Int32)), .val (.ref b59), .val (.int (p2 &&& (((1 : Int32) <<< ((6 : Int32) &&& 31)) - (1 : Int32)))), .val (.int j111_S0k6)] [])) _
      refine XS.iconst X78.here hx rfl (hb hby at_132) ?_
      show Steps p.tables e below (T78.setTop (mkF m 133 #[.val (.int p1), .val (.int p2), .val (.int (6 : Int32)), .val (.ref b59), .val (.int (p2 &&& (((1 : Int32) <<< ((6 : Int32) &&& 31)) - (1 : Int32)))), .val (.int j111_S0k6)] [(.int (1 : Int32))])) _
      refine XS.goto X78.here hx rfl (pc0 := 133) (pc' := 137) rfl (hb hby at_133) (by decide) (by decide) ?_
      show Steps p.tables e below (T78.setTop (mkF m 137 #[.val (.int p1), .val (.int p2), .val (.int (6 : Int32)), .val (.ref b59), .val (.int (p2 &&& (((1 : Int32) <<< ((6 : Int32) &&& 31)) - (1 : Int32)))), .val (.int j111_S0k6)] [(.int (1 : Int32))])) _
      exact retN X78 hx (t := .boolean) Bd.returns (by simp) (hb hby at_137) hr
    · show Q0 Z p1 p2 h0 n0 _ T78.heap _
      rw [e78]
      exact ⟨rfl, N78⟩
  · rw [hk] at c1
    obtain ⟨T79, h79, k79, X79, e79, E79, A79, st79⟩ := newP X0 hx hZ (hw _ (List.mem_of_getElem? (i := 0) rfl)) e0 (g := (mkF m 6 #[.val (.int p1), .val (.int p2), .val (.int (7 : Int32)), .unset, .unset, .unset] [(.int (7 : Int32))])) rfl (hb hby at_6) rfl (by decide) (cap := 7) (by decide) (by decide) (by decide) (by decide)
    obtain ⟨b79, g79⟩ : ∃ z, z = h0.size := ⟨_, rfl⟩
    rw [← g79] at A79 st79
    have g_b79 : n0 ≤ b79 := Nat.le_trans Z0 (Nat.le_of_eq g79.symm)
    have Z79 : n0 ≤ h79.size := Nat.le_trans Z0 E79.1
    have V79 : Arv Z h79 b79 k79 .boolean (7 : Int32) [(.int (0 : Int32)), (.int (0 : Int32)), (.int (0 : Int32)), (.int (0 : Int32)), (.int (0 : Int32)), (.int (0 : Int32)), (.int (0 : Int32))] (.int (0 : Int32)) := (Arv.new A79 (by decide)).pad (pad_rep [] (.int (0 : Int32)) 7)
    obtain ⟨_, _, ⟨T80, L80, k80, n80⟩, -, X80, ⟨Lc80, hQ80, l80, y80, z80⟩, st80⟩ := Jvm.LawKit.callS X79 hx (y := (⟨"com/example/braided_tour/braidedtour/choice/LogitAnyAvailablePinLaw", "bit", "(II)Z"⟩ : MethodName)) hown (mvT hZ (hw _ (List.mem_of_getElem? (i := 5) rfl))) (mvT hZ (hw _ (List.mem_of_getElem? (i := 6) rfl))) (mvT hZ (hw _ (List.mem_of_getElem? (i := 7) rfl))) (mvT hZ (hw _ (List.mem_of_getElem? (i := 8) rfl))) (by decide) (backOf (W := 2) (rm2 l Z a0 hw [] p2 (0 : Int32) h79 n0 Z79 ) hZ (hw _ (List.mem_of_getElem? (i := 8) rfl)) (hw _ (List.mem_of_getElem? (i := 7) rfl)) (by decide) (by decide)) (g := (mkF m 17 #[.val (.int p1), .val (.int p2), .val (.int (7 : Int32)), .val (.ref b79), .unset, .unset] [(.int (0 : Int32)), (.int p2), (.int (0 : Int32)), (.ref b79)])) rfl (by rw [hml]; rfl) (argsL := [(.int p2), (.int (0 : Int32))]) (rest := [(.int (0 : Int32)), (.ref b79)]) (lenOf pd0_1 rfl) rfl (by show 2 * 0 + _ ≤ _; exact Nat.le_of_eq rfl) (hb hby at_17) (fun _ _ => ⟨rfl, e79, (by decide : 1 + 0 ≤ _), (by decide : 7 + 0 ≤ _)⟩)
    dsimp only [Pt.U, Pt.locs, Pt.cells, Pt.slots] at X80 l80 y80 z80 st80 hQ80
    subst l80 y80 z80
    obtain ⟨rfl, N80q, e80⟩ := hQ80
    have N80 := Fr.app N0 N80q
    have cp20_81 := V79
    obtain ⟨cl20_81, Ar20_81, qa20_81, Sa20_81, Na20_81, Ha20_81, Ga20_81⟩ := cp20_81
    have hin20_81 : ¬ ((0 : Int32) < 0 ∨ cl20_81.slots.size ≤ ((0 : Int32)).toNatClampNeg) := inb_of Sa20_81 ⟨by decide, by decide⟩
    obtain ⟨T82, h82, X82, e82, W82, st82⟩ := stZ X80 hx hZ e80 Ar20_81 (j := (0 : Int32)) hin20_81 (g := (mkF m 20 #[.val (.int p1), .val (.int p2), .val (.int (7 : Int32)), .val (.ref b79), .unset, .unset] [(.int (own_bit p2 (0 : Int32))), (.int (0 : Int32)), (.ref b79)])) rfl rfl (hb hby at_20)
    have V82 : Arv Z h82 b79 k79 .boolean (7 : Int32) [(.int (nar .boolean (own_bit p2 (0 : Int32)))), (.int (0 : Int32)), (.int (0 : Int32)), (.int (0 : Int32)), (.int (0 : Int32)), (.int (0 : Int32)), (.int (0 : Int32))] (.int (0 : Int32)) := Arv.set Ar20_81 qa20_81 Sa20_81 Na20_81 Ha20_81 Ga20_81 (fits_nar_bool _) W82 0 rfl (Nat.le_of_ble_eq_true rfl)
    have N82 := Fr.snoc X82 N80 g_b79
    have Z82 : n0 ≤ h82.size := Nat.le_trans Z79 (Keep.of_wr W82).1
    obtain ⟨_, _, ⟨T83, L83, k83, n83⟩, -, X83, ⟨Lc83, hQ83, l83, y83, z83⟩, st83⟩ := Jvm.LawKit.callS X82 hx (y := (⟨"com/example/braided_tour/braidedtour/choice/LogitAnyAvailablePinLaw", "bit", "(II)Z"⟩ : MethodName)) hown (mvT hZ (hw _ (List.mem_of_getElem? (i := 5) rfl))) (mvT hZ (hw _ (List.mem_of_getElem? (i := 6) rfl))) (mvT hZ (hw _ (List.mem_of_getElem? (i := 7) rfl))) (mvT hZ (hw _ (List.mem_of_getElem? (i := 8) rfl))) (by decide) (backOf (W := 2) (rm2 l Z a0 hw [] p2 (1 : Int32) h82 n0 Z82 ) hZ (hw _ (List.mem_of_getElem? (i := 8) rfl)) (hw _ (List.mem_of_getElem? (i := 7) rfl)) (by decide) (by decide)) (g := (mkF m 30 #[.val (.int p1), .val (.int p2), .val (.int (7 : Int32)), .val (.ref b79), .unset, .unset] [(.int (1 : Int32)), (.int p2), (.int (1 : Int32)), (.ref b79)])) rfl (by rw [hml]; rfl) (argsL := [(.int p2), (.int (1 : Int32))]) (rest := [(.int (1 : Int32)), (.ref b79)]) (lenOf pd0_1 rfl) rfl (by show 2 * 0 + _ ≤ _; exact Nat.le_of_eq rfl) (hb hby at_30) (fun _ _ => ⟨rfl, e82, (by decide : 1 + 0 ≤ _), (by decide : 7 + 0 ≤ _)⟩)
    dsimp only [Pt.U, Pt.locs, Pt.cells, Pt.slots] at X83 l83 y83 z83 st83 hQ83
    subst l83 y83 z83
    obtain ⟨rfl, N83q, e83⟩ := hQ83
    have N83 := Fr.app N82 N83q
    have cp33_84 := V82
    obtain ⟨cl33_84, Ar33_84, qa33_84, Sa33_84, Na33_84, Ha33_84, Ga33_84⟩ := cp33_84
    have hin33_84 : ¬ ((1 : Int32) < 0 ∨ cl33_84.slots.size ≤ ((1 : Int32)).toNatClampNeg) := inb_of Sa33_84 ⟨by decide, by decide⟩
    obtain ⟨T85, h85, X85, e85, W85, st85⟩ := stZ X83 hx hZ e83 Ar33_84 (j := (1 : Int32)) hin33_84 (g := (mkF m 33 #[.val (.int p1), .val (.int p2), .val (.int (7 : Int32)), .val (.ref b79), .unset, .unset] [(.int (own_bit p2 (1 : Int32))), (.int (1 : Int32)), (.ref b79)])) rfl rfl (hb hby at_33)
    have V85 : Arv Z h85 b79 k79 .boolean (7 : Int32) [(.int (nar .boolean (own_bit p2 (0 : Int32)))), (.int (nar .boolean (own_bit p2 (1 : Int32)))), (.int (0 : Int32)), (.int (0 : Int32)), (.int (0 : Int32)), (.int (0 : Int32)), (.int (0 : Int32))] (.int (0 : Int32)) := Arv.set Ar33_84 qa33_84 Sa33_84 Na33_84 Ha33_84 Ga33_84 (fits_nar_bool _) W85 1 rfl (Nat.le_of_ble_eq_true rfl)
    have N85 := Fr.snoc X85 N83 g_b79
    have Z85 : n0 ≤ h85.size := Nat.le_trans Z82 (Keep.of_wr W85).1
    obtain ⟨_, _, ⟨T86, L86, k86, n86⟩, -, X86, ⟨Lc86, hQ86, l86, y86, z86⟩, st86⟩ := Jvm.LawKit.callS X85 hx (y := (⟨"com/example/braided_tour/braidedtour/choice/LogitAnyAvailablePinLaw", "bit", "(II)Z"⟩ : MethodName)) hown (mvT hZ (hw _ (List.mem_of_getElem? (i := 5) rfl))) (mvT hZ (hw _ (List.mem_of_getElem? (i := 6) rfl))) (mvT hZ (hw _ (List.mem_of_getElem? (i := 7) rfl))) (mvT hZ (hw _ (List.mem_of_getElem? (i := 8) rfl))) (by decide) (backOf (W := 2) (rm2 l Z a0 hw [] p2 (2 : Int32) h85 n0 Z85 ) hZ (hw _ (List.mem_of_getElem? (i := 8) rfl)) (hw _ (List.mem_of_getElem? (i := 7) rfl)) (by decide) (by decide)) (g := (mkF m 43 #[.val (.int p1), .val (.int p2), .val (.int (7 : Int32)), .val (.ref b79), .unset, .unset] [(.int (2 : Int32)), (.int p2), (.int (2 : Int32)), (.ref b79)])) rfl (by rw [hml]; rfl) (argsL := [(.int p2), (.int (2 : Int32))]) (rest := [(.int (2 : Int32)), (.ref b79)]) (lenOf pd0_1 rfl) rfl (by show 2 * 0 + _ ≤ _; exact Nat.le_of_eq rfl) (hb hby at_43) (fun _ _ => ⟨rfl, e85, (by decide : 1 + 0 ≤ _), (by decide : 7 + 0 ≤ _)⟩)
    dsimp only [Pt.U, Pt.locs, Pt.cells, Pt.slots] at X86 l86 y86 z86 st86 hQ86
    subst l86 y86 z86
    obtain ⟨rfl, N86q, e86⟩ := hQ86
    have N86 := Fr.app N85 N86q
    have cp46_87 := V85
    obtain ⟨cl46_87, Ar46_87, qa46_87, Sa46_87, Na46_87, Ha46_87, Ga46_87⟩ := cp46_87
    have hin46_87 : ¬ ((2 : Int32) < 0 ∨ cl46_87.slots.size ≤ ((2 : Int32)).toNatClampNeg) := inb_of Sa46_87 ⟨by decide, by decide⟩
    obtain ⟨T88, h88, X88, e88, W88, st88⟩ := stZ X86 hx hZ e86 Ar46_87 (j := (2 : Int32)) hin46_87 (g := (mkF m 46 #[.val (.int p1), .val (.int p2), .val (.int (7 : Int32)), .val (.ref b79), .unset, .unset] [(.int (own_bit p2 (2 : Int32))), (.int (2 : Int32)), (.ref b79)])) rfl rfl (hb hby at_46)
    have V88 : Arv Z h88 b79 k79 .boolean (7 : Int32) [(.int (nar .boolean (own_bit p2 (0 : Int32)))), (.int (nar .boolean (own_bit p2 (1 : Int32)))), (.int (nar .boolean (own_bit p2 (2 : Int32)))), (.int (0 : Int32)), (.int (0 : Int32)), (.int (0 : Int32)), (.int (0 : Int32))] (.int (0 : Int32)) := Arv.set Ar46_87 qa46_87 Sa46_87 Na46_87 Ha46_87 Ga46_87 (fits_nar_bool _) W88 2 rfl (Nat.le_of_ble_eq_true rfl)
    have N88 := Fr.snoc X88 N86 g_b79
    have Z88 : n0 ≤ h88.size := Nat.le_trans Z85 (Keep.of_wr W88).1
    obtain ⟨_, _, ⟨T89, L89, k89, n89⟩, -, X89, ⟨Lc89, hQ89, l89, y89, z89⟩, st89⟩ := Jvm.LawKit.callS X88 hx (y := (⟨"com/example/braided_tour/braidedtour/choice/LogitAnyAvailablePinLaw", "bit", "(II)Z"⟩ : MethodName)) hown (mvT hZ (hw _ (List.mem_of_getElem? (i := 5) rfl))) (mvT hZ (hw _ (List.mem_of_getElem? (i := 6) rfl))) (mvT hZ (hw _ (List.mem_of_getElem? (i := 7) rfl))) (mvT hZ (hw _ (List.mem_of_getElem? (i := 8) rfl))) (by decide) (backOf (W := 2) (rm2 l Z a0 hw [] p2 (3 : Int32) h88 n0 Z88 ) hZ (hw _ (List.mem_of_getElem? (i := 8) rfl)) (hw _ (List.mem_of_getElem? (i := 7) rfl)) (by decide) (by decide)) (g := (mkF m 56 #[.val (.int p1), .val (.int p2), .val (.int (7 : Int32)), .val (.ref b79), .unset, .unset] [(.int (3 : Int32)), (.int p2), (.int (3 : Int32)), (.ref b79)])) rfl (by rw [hml]; rfl) (argsL := [(.int p2), (.int (3 : Int32))]) (rest := [(.int (3 : Int32)), (.ref b79)]) (lenOf pd0_1 rfl) rfl (by show 2 * 0 + _ ≤ _; exact Nat.le_of_eq rfl) (hb hby at_56) (fun _ _ => ⟨rfl, e88, (by decide : 1 + 0 ≤ _), (by decide : 7 + 0 ≤ _)⟩)
    dsimp only [Pt.U, Pt.locs, Pt.cells, Pt.slots] at X89 l89 y89 z89 st89 hQ89
    subst l89 y89 z89
    obtain ⟨rfl, N89q, e89⟩ := hQ89
    have N89 := Fr.app N88 N89q
    have cp59_90 := V88
    obtain ⟨cl59_90, Ar59_90, qa59_90, Sa59_90, Na59_90, Ha59_90, Ga59_90⟩ := cp59_90
    have hin59_90 : ¬ ((3 : Int32) < 0 ∨ cl59_90.slots.size ≤ ((3 : Int32)).toNatClampNeg) := inb_of Sa59_90 ⟨by decide, by decide⟩
    obtain ⟨T91, h91, X91, e91, W91, st91⟩ := stZ X89 hx hZ e89 Ar59_90 (j := (3 : Int32)) hin59_90 (g := (mkF m 59 #[.val (.int p1), .val (.int p2), .val (.int (7 : Int32)), .val (.ref b79), .unset, .unset] [(.int (own_bit p2 (3 : Int32))), (.int (3 : Int32)), (.ref b79)])) rfl rfl (hb hby at_59)
    have V91 : Arv Z h91 b79 k79 .boolean (7 : Int32) [(.int (nar .boolean (own_bit p2 (0 : Int32)))), (.int (nar .boolean (own_bit p2 (1 : Int32)))), (.int (nar .boolean (own_bit p2 (2 : Int32)))), (.int (nar .boolean (own_bit p2 (3 : Int32)))), (.int (0 : Int32)), (.int (0 : Int32)), (.int (0 : Int32))] (.int (0 : Int32)) := Arv.set Ar59_90 qa59_90 Sa59_90 Na59_90 Ha59_90 Ga59_90 (fits_nar_bool _) W91 3 rfl (Nat.le_of_ble_eq_true rfl)
    have N91 := Fr.snoc X91 N89 g_b79
    have Z91 : n0 ≤ h91.size := Nat.le_trans Z88 (Keep.of_wr W91).1
    obtain ⟨_, _, ⟨T92, L92, k92, n92⟩, -, X92, ⟨Lc92, hQ92, l92, y92, z92⟩, st92⟩ := Jvm.LawKit.callS X91 hx (y := (⟨"com/example/braided_tour/braidedtour/choice/LogitAnyAvailablePinLaw", "bit", "(II)Z"⟩ : MethodName)) hown (mvT hZ (hw _ (List.mem_of_getElem? (i := 5) rfl))) (mvT hZ (hw _ (List.mem_of_getElem? (i := 6) rfl))) (mvT hZ (hw _ (List.mem_of_getElem? (i := 7) rfl))) (mvT hZ (hw _ (List.mem_of_getElem? (i := 8) rfl))) (by decide) (backOf (W := 2) (rm2 l Z a0 hw [] p2 (4 : Int32) h91 n0 Z91 ) hZ (hw _ (List.mem_of_getElem? (i := 8) rfl)) (hw _ (List.mem_of_getElem? (i := 7) rfl)) (by decide) (by decide)) (g := (mkF m 69 #[.val (.int p1), .val (.int p2), .val (.int (7 : Int32)), .val (.ref b79), .unset, .unset] [(.int (4 : Int32)), (.int p2), (.int (4 : Int32)), (.ref b79)])) rfl (by rw [hml]; rfl) (argsL := [(.int p2), (.int (4 : Int32))]) (rest := [(.int (4 : Int32)), (.ref b79)]) (lenOf pd0_1 rfl) rfl (by show 2 * 0 + _ ≤ _; exact Nat.le_of_eq rfl) (hb hby at_69) (fun _ _ => ⟨rfl, e91, (by decide : 1 + 0 ≤ _), (by decide : 7 + 0 ≤ _)⟩)
    dsimp only [Pt.U, Pt.locs, Pt.cells, Pt.slots] at X92 l92 y92 z92 st92 hQ92
    subst l92 y92 z92
    obtain ⟨rfl, N92q, e92⟩ := hQ92
    have N92 := Fr.app N91 N92q
    have cp72_93 := V91
    obtain ⟨cl72_93, Ar72_93, qa72_93, Sa72_93, Na72_93, Ha72_93, Ga72_93⟩ := cp72_93
    have hin72_93 : ¬ ((4 : Int32) < 0 ∨ cl72_93.slots.size ≤ ((4 : Int32)).toNatClampNeg) := inb_of Sa72_93 ⟨by decide, by decide⟩
    obtain ⟨T94, h94, X94, e94, W94, st94⟩ := stZ X92 hx hZ e92 Ar72_93 (j := (4 : Int32)) hin72_93 (g := (mkF m 72 #[.val (.int p1), .val (.int p2), .val (.int (7 : Int32)), .val (.ref b79), .unset, .unset] [(.int (own_bit p2 (4 : Int32))), (.int (4 : Int32)), (.ref b79)])) rfl rfl (hb hby at_72)
    have V94 : Arv Z h94 b79 k79 .boolean (7 : Int32) [(.int (nar .boolean (own_bit p2 (0 : Int32)))), (.int (nar .boolean (own_bit p2 (1 : Int32)))), (.int (nar .boolean (own_bit p2 (2 : Int32)))), (.int (nar .boolean (own_bit p2 (3 : Int32)))), (.int (nar .boolean (own_bit p2 (4 : Int32)))), (.int (0 : Int32)), (.int (0 : Int32))] (.int (0 : Int32)) := Arv.set Ar72_93 qa72_93 Sa72_93 Na72_93 Ha72_93 Ga72_93 (fits_nar_bool _) W94 4 rfl (Nat.le_of_ble_eq_true rfl)
    have N94 := Fr.snoc X94 N92 g_b79
    have Z94 : n0 ≤ h94.size := Nat.le_trans Z91 (Keep.of_wr W94).1
    obtain ⟨_, _, ⟨T95, L95, k95, n95⟩, -, X95, ⟨Lc95, hQ95, l95, y95, z95⟩, st95⟩ := Jvm.LawKit.callS X94 hx (y := (⟨"com/example/braided_tour/braidedtour/choice/LogitAnyAvailablePinLaw", "bit", "(II)Z"⟩ : MethodName)) hown (mvT hZ (hw _ (List.mem_of_getElem? (i := 5) rfl))) (mvT hZ (hw _ (List.mem_of_getElem? (i := 6) rfl))) (mvT hZ (hw _ (List.mem_of_getElem? (i := 7) rfl))) (mvT hZ (hw _ (List.mem_of_getElem? (i := 8) rfl))) (by decide) (backOf (W := 2) (rm2 l Z a0 hw [] p2 (5 : Int32) h94 n0 Z94 ) hZ (hw _ (List.mem_of_getElem? (i := 8) rfl)) (hw _ (List.mem_of_getElem? (i := 7) rfl)) (by decide) (by decide)) (g := (mkF m 82 #[.val (.int p1), .val (.int p2), .val (.int (7 : Int32)), .val (.ref b79), .unset, .unset] [(.int (5 : Int32)), (.int p2), (.int (5 : Int32)), (.ref b79)])) rfl (by rw [hml]; rfl) (argsL := [(.int p2), (.int (5 : Int32))]) (rest := [(.int (5 : Int32)), (.ref b79)]) (lenOf pd0_1 rfl) rfl (by show 2 * 0 + _ ≤ _; exact Nat.le_of_eq rfl) (hb hby at_82) (fun _ _ => ⟨rfl, e94, (by decide : 1 + 0 ≤ _), (by decide : 7 + 0 ≤ _)⟩)
    dsimp only [Pt.U, Pt.locs, Pt.cells, Pt.slots] at X95 l95 y95 z95 st95 hQ95
    subst l95 y95 z95
    obtain ⟨rfl, N95q, e95⟩ := hQ95
    have N95 := Fr.app N94 N95q
    have cp85_96 := V94
    obtain ⟨cl85_96, Ar85_96, qa85_96, Sa85_96, Na85_96, Ha85_96, Ga85_96⟩ := cp85_96
    have hin85_96 : ¬ ((5 : Int32) < 0 ∨ cl85_96.slots.size ≤ ((5 : Int32)).toNatClampNeg) := inb_of Sa85_96 ⟨by decide, by decide⟩
    obtain ⟨T97, h97, X97, e97, W97, st97⟩ := stZ X95 hx hZ e95 Ar85_96 (j := (5 : Int32)) hin85_96 (g := (mkF m 85 #[.val (.int p1), .val (.int p2), .val (.int (7 : Int32)), .val (.ref b79), .unset, .unset] [(.int (own_bit p2 (5 : Int32))), (.int (5 : Int32)), (.ref b79)])) rfl rfl (hb hby at_85)
    have V97 : Arv Z h97 b79 k79 .boolean (7 : Int32) [(.int (nar .boolean (own_bit p2 (0 : Int32)))), (.int (nar .boolean (own_bit p2 (1 : Int32)))), (.int (nar .boolean (own_bit p2 (2 : Int32)))), (.int (nar .boolean (own_bit p2 (3 : Int32)))), (.int (nar .boolean (own_bit p2 (4 : Int32)))), (.int (nar .boolean (own_bit p2 (5 : Int32)))), (.int (0 : Int32))] (.int (0 : Int32)) := Arv.set Ar85_96 qa85_96 Sa85_96 Na85_96 Ha85_96 Ga85_96 (fits_nar_bool _) W97 5 rfl (Nat.le_of_ble_eq_true rfl)
    have N97 := Fr.snoc X97 N95 g_b79
    have Z97 : n0 ≤ h97.size := Nat.le_trans Z94 (Keep.of_wr W97).1
    obtain ⟨_, _, ⟨T98, L98, k98, n98⟩, -, X98, ⟨Lc98, hQ98, l98, y98, z98⟩, st98⟩ := Jvm.LawKit.callS X97 hx (y := (⟨"com/example/braided_tour/braidedtour/choice/LogitAnyAvailablePinLaw", "bit", "(II)Z"⟩ : MethodName)) hown (mvT hZ (hw _ (List.mem_of_getElem? (i := 5) rfl))) (mvT hZ (hw _ (List.mem_of_getElem? (i := 6) rfl))) (mvT hZ (hw _ (List.mem_of_getElem? (i := 7) rfl))) (mvT hZ (hw _ (List.mem_of_getElem? (i := 8) rfl))) (by decide) (backOf (W := 2) (rm2 l Z a0 hw [] p2 (6 : Int32) h97 n0 Z97 ) hZ (hw _ (List.mem_of_getElem? (i := 8) rfl)) (hw _ (List.mem_of_getElem? (i := 7) rfl)) (by decide) (by decide)) (g := (mkF m 98 #[.val (.int p1), .val (.int p2), .val (.int (7 : Int32)), .val (.ref b79), .unset, .unset] [(.int (6 : Int32)), (.int p2), (.int (6 : Int32)), (.ref b79)])) rfl (by rw [hml]; rfl) (argsL := [(.int p2), (.int (6 : Int32))]) (rest := [(.int (6 : Int32)), (.ref b79)]) (lenOf pd0_1 rfl) rfl (by show 2 * 0 + _ ≤ _; exact Nat.le_of_eq rfl) (hb hby at_98) (fun _ _ => ⟨rfl, e97, (by decide : 1 + 0 ≤ _), (by decide : 7 + 0 ≤ _)⟩)
    dsimp only [Pt.U, Pt.locs, Pt.cells, Pt.slots] at X98 l98 y98 z98 st98 hQ98
    subst l98 y98 z98
    obtain ⟨rfl, N98q, e98⟩ := hQ98
    have N98 := Fr.app N97 N98q
    have cp101_99 := V97
    obtain ⟨cl101_99, Ar101_99, qa101_99, Sa101_99, Na101_99, Ha101_99, Ga101_99⟩ := cp101_99
    have hin101_99 : ¬ ((6 : Int32) < 0 ∨ cl101_99.slots.size ≤ ((6 : Int32)).toNatClampNeg) := inb_of Sa101_99 ⟨by decide, by decide⟩
    obtain ⟨T100, h100, X100, e100, W100, st100⟩ := stZ X98 hx hZ e98 Ar101_99 (j := (6 : Int32)) hin101_99 (g := (mkF m 101 #[.val (.int p1), .val (.int p2), .val (.int (7 : Int32)), .val (.ref b79), .unset, .unset] [(.int (own_bit p2 (6 : Int32))), (.int (6 : Int32)), (.ref b79)])) rfl rfl (hb hby at_101)
    have V100 : Arv Z h100 b79 k79 .boolean (7 : Int32) [(.int (nar .boolean (own_bit p2 (0 : Int32)))), (.int (nar .boolean (own_bit p2 (1 : Int32)))), (.int (nar .boolean (own_bit p2 (2 : Int32)))), (.int (nar .boolean (own_bit p2 (3 : Int32)))), (.int (nar .boolean (own_bit p2 (4 : Int32)))), (.int (nar .boolean (own_bit p2 (5 : Int32)))), (.int (nar .boolean (own_bit p2 (6 : Int32))))] (.int (0 : Int32)) := Arv.set Ar101_99 qa101_99 Sa101_99 Na101_99 Ha101_99 Ga101_99 (fits_nar_bool _) W100 6 rfl (Nat.le_of_ble_eq_true rfl)
    have N100 := Fr.snoc X100 N98 g_b79
    have Z100 : n0 ≤ h100.size := Nat.le_trans Z97 (Keep.of_wr W100).1
    obtain ⟨j111_S0k7, ej111_S0k7⟩ : ∃ z : Int32, z = (if (p2 &&& (((1 : Int32) <<< ((7 : Int32) &&& 31)) - (1 : Int32))) = (0 : Int32) then (0 : Int32) else (1 : Int32)) := ⟨_, rfl⟩
    have sg111k7 : ∀ t, Steps p.tables e below (T100.setTop (mkF m 121 #[.val (.int p1), .val (.int p2), .val (.int (7 : Int32)), .val (.ref b79), .val (.int (p2 &&& (((1 : Int32) <<< ((7 : Int32) &&& 31)) - (1 : Int32)))), .unset] [(.int j111_S0k7)])) t → Steps p.tables e below (T100.setTop (mkF m 111 #[.val (.int p1), .val (.int p2), .val (.int (7 : Int32)), .val (.ref b79), .val (.int (p2 &&& (((1 : Int32) <<< ((7 : Int32) &&& 31)) - (1 : Int32)))), .unset] [])) t := fun t kt => by
      show Steps p.tables e below (T100.setTop (mkF m 111 #[.val (.int p1), .val (.int p2), .val (.int (7 : Int32)), .val (.ref b79), .val (.int (p2 &&& (((1 : Int32) <<< ((7 : Int32) &&& 31)) - (1 : Int32)))), .unset] [])) _
      refine XS.iload X100.here hx rfl (hb hby at_111) rfl ?_
      by_cases hc113 : (p2 &&& (((1 : Int32) <<< ((7 : Int32) &&& 31)) - (1 : Int32))) = (0 : Int32)
      · have qj111_S0k7 : j111_S0k7 = (0 : Int32) := by rw [ej111_S0k7, if_pos hc113]
        rw [qj111_S0k7] at kt
        show Steps p.tables e below (T100.setTop (mkF m 113 #[.val (.int p1), .val (.int p2), .val (.int (7 : Int32)), .val (.ref b79), .val (.int (p2 &&& (((1 : Int32) <<< ((7 : Int32) &&& 31)) - (1 : Int32)))), .unset] [(.int (p2 &&& (((1 : Int32) <<< ((7 : Int32) &&& 31)) - (1 : Int32))))])) _
        refine XS.ifYes X100.here hx rfl (pc0 := 113) (pc' := 120) rfl (hb hby at_113) rfl ((if0 _ _).trans (teq hc113).1) (by decide) (by decide) ?_
        show Steps p.tables e below (T100.setTop (mkF m 120 #[.val (.int p1), .val (.int p2), .val (.int (7 : Int32)), .val (.ref b79), .val (.int (p2 &&& (((1 : Int32) <<< ((7 : Int32) &&& 31)) - (1 : Int32)))), .unset] [])) _
        refine XS.iconst X100.here hx rfl (hb hby at_120) ?_
        exact kt
      · have qj111_S0k7 : j111_S0k7 = (1 : Int32) := by rw [ej111_S0k7, if_neg hc113]
        rw [qj111_S0k7] at kt
        show Steps p.tables e below (T100.setTop (mkF m 113 #[.val (.int p1), .val (.int p2), .val (.int (7 : Int32)), .val (.ref b79), .val (.int (p2 &&& (((1 : Int32) <<< ((7 : Int32) &&& 31)) - (1 : Int32)))), .unset] [(.int (p2 &&& (((1 : Int32) <<< ((7 : Int32) &&& 31)) - (1 : Int32))))])) _
        refine XS.ifNo X100.here hx rfl (hb hby at_113) rfl ((if0 _ _).trans (feq hc113).1) ?_
        show Steps p.tables e below (T100.setTop (mkF m 116 #[.val (.int p1), .val (.int p2), .val (.int (7 : Int32)), .val (.ref b79), .val (.int (p2 &&& (((1 : Int32) <<< ((7 : Int32) &&& 31)) - (1 : Int32)))), .unset] [])) _
        refine XS.iconst X100.here hx rfl (hb hby at_116) ?_
        show Steps p.tables e below (T100.setTop (mkF m 117 #[.val (.int p1), .val (.int p2), .val (.int (7 : Int32)), .val (.ref b79), .val (.int (p2 &&& (((1 : Int32) <<< ((7 : Int32) &&& 31)) - (1 : Int32)))), .unset] [(.int (1 : Int32))])) _
        refine XS.goto X100.here hx rfl (pc0 := 117) (pc' := 121) rfl (hb hby at_117) (by decide) (by decide) ?_
        exact kt
    obtain ⟨_, _, ⟨T101, L101, k101, n101⟩, -, X101, ⟨Lc101, hQ101, l101, y101, z101⟩, st101⟩ := Jvm.LawKit.callS X100 hx (y := (⟨"com/example/braided_tour/braidedtour/choice/Logit", "anyAvailable", "([Z)Z"⟩ : MethodName)) hown (mvT hZ (hw _ (List.mem_of_getElem? (i := 1) rfl))) (mvT hZ (hw _ (List.mem_of_getElem? (i := 2) rfl))) (mvT hZ (hw _ (List.mem_of_getElem? (i := 3) rfl))) (mvT hZ (hw _ (List.mem_of_getElem? (i := 4) rfl))) (by decide) (backOf (W := 0) (rm1n7 l Z a0 hw [] b79 k79 (nar .boolean (own_bit p2 (0 : Int32))) (nar .boolean (own_bit p2 (1 : Int32))) (nar .boolean (own_bit p2 (2 : Int32))) (nar .boolean (own_bit p2 (3 : Int32))) (nar .boolean (own_bit p2 (4 : Int32))) (nar .boolean (own_bit p2 (5 : Int32))) (nar .boolean (own_bit p2 (6 : Int32))) h100 n0 Z100 V100) hZ (hw _ (List.mem_of_getElem? (i := 4) rfl)) (hw _ (List.mem_of_getElem? (i := 3) rfl)) (by decide) (by decide)) (g := (mkF m 124 #[.val (.int p1), .val (.int p2), .val (.int (7 : Int32)), .val (.ref b79), .val (.int (p2 &&& (((1 : Int32) <<< ((7 : Int32) &&& 31)) - (1 : Int32)))), .val (.int j111_S0k7)] [(.ref b79)])) rfl (by rw [hml]; rfl) (argsL := [(.ref b79)]) (rest := []) (lenOf pd0_0 rfl) rfl (by show 2 * 0 + _ ≤ _; exact Nat.le_of_eq rfl) (hb hby at_124) (fun _ _ => ⟨rfl, e100, (by decide : 1 + 0 ≤ _), (by decide : 7 + 0 ≤ _)⟩)
    dsimp only [Pt.U, Pt.locs, Pt.cells, Pt.slots] at X101 l101 y101 z101 st101 hQ101
    subst l101 y101 z101
    obtain ⟨rfl, N101q, e101⟩ := hQ101
    have N101 := Fr.app N100 N101q
    obtain ⟨fs, hr, hrun, hended, hW, hsame⟩ := X101.leave (v := some (.int (1 : Int32))) (fun h => by rw [Bd.returns] at h; cases h)
    refine ⟨_, _, c1 _ ?_, hrun, hended, _, _, rfl, ?_, ⟨_, rfl⟩, hW, hsame.mono (by decide) (by decide)⟩
    · show Steps p.tables e below (s₁.setTop (mkF m 5 #[.val (.int p1), .val (.int p2), .val (.int (7 : Int32)), .unset, .unset, .unset] [])) _
      refine XS.iloadN X0.here hx rfl (hb hby at_5) rfl ?_
      show Steps p.tables e below (s₁.setTop (mkF m 6 #[.val (.int p1), .val (.int p2), .val (.int (7 : Int32)), .unset, .unset, .unset] [(.int (7 : Int32))])) _
      refine st79 _ ?_
      show Steps p.tables e below (T79.setTop (mkF m 8 #[.val (.int p1), .val (.int p2), .val (.int (7 : Int32)), .unset, .unset, .unset] [(.ref b79)])) _
      refine XS.astoreN X79.here hx rfl (hb hby at_8) rfl rfl (l' := #[.val (.int p1), .val (.int p2), .val (.int (7 : Int32)), .val (.ref b79), .unset, .unset]) rfl ?_
      show Steps p.tables e below (T79.setTop (mkF m 9 #[.val (.int p1), .val (.int p2), .val (.int (7 : Int32)), .val (.ref b79), .unset, .unset] [])) _
      refine XS.iloadN X79.here hx rfl (hb hby at_9) rfl ?_
      show Steps p.tables e below (T79.setTop (mkF m 10 #[.val (.int p1), .val (.int p2), .val (.int (7 : Int32)), .val (.ref b79), .unset, .unset] [(.int (7 : Int32))])) _
      refine XS.ifNo X79.here hx rfl (hb hby at_10) rfl ((if0 _ _).trans (tlt (by decide)).2.2.2) ?_
      show Steps p.tables e below (T79.setTop (mkF m 13 #[.val (.int p1), .val (.int p2), .val (.int (7 : Int32)), .val (.ref b79), .unset, .unset] [])) _
      refine XS.aloadN X79.here hx rfl (hb hby at_13) rfl rfl ?_
      show Steps p.tables e below (T79.setTop (mkF m 14 #[.val (.int p1), .val (.int p2), .val (.int (7 : Int32)), .val (.ref b79), .unset, .unset] [(.ref b79)])) _
      refine XS.iconst X79.here hx rfl (hb hby at_14) ?_
      show Steps p.tables e below (T79.setTop (mkF m 15 #[.val (.int p1), .val (.int p2), .val (.int (7 : Int32)), .val (.ref b79), .unset, .unset] [(.int (0 : Int32)), (.ref b79)])) _
      refine XS.iloadN X79.here hx rfl (hb hby at_15) rfl ?_
      show Steps p.tables e below (T79.setTop (mkF m 16 #[.val (.int p1), .val (.int p2), .val (.int (7 : Int32)), .val (.ref b79), .unset, .unset] [(.int p2), (.int (0 : Int32)), (.ref b79)])) _
      refine XS.iconst X79.here hx rfl (hb hby at_16) ?_
      show Steps p.tables e below (T79.setTop (mkF m 17 #[.val (.int p1), .val (.int p2), .val (.int (7 : Int32)), .val (.ref b79), .unset, .unset] [(.int (0 : Int32)), (.int p2), (.int (0 : Int32)), (.ref b79)])) _
      refine st80 _ ?_
      show Steps p.tables e below (T80.setTop (mkF m 20 #[.val (.int p1), .val (.int p2), .val (.int (7 : Int32)), .val (.ref b79), .unset, .unset] [(.int (own_bit p2 (0 : Int32))), (.int (0 : Int32)), (.ref b79)])) _
      refine st82 _ ?_
      show Steps p.tables e below (T82.setTop (mkF m 21 #[.val (.int p1), .val (.int p2), .val (.int (7 : Int32)), .val (.ref b79), .unset, .unset] [])) _
      refine XS.iloadN X82.here hx rfl (hb hby at_21) rfl ?_
      show Steps p.tables e below (T82.setTop (mkF m 22 #[.val (.int p1), .val (.int p2), .val (.int (7 : Int32)), .val (.ref b79), .unset, .unset] [(.int (7 : Int32))])) _
      refine XS.iconst X82.here hx rfl (hb hby at_22) ?_
      show Steps p.tables e below (T82.setTop (mkF m 23 #[.val (.int p1), .val (.int p2), .val (.int (7 : Int32)), .val (.ref b79), .unset, .unset] [(.int (1 : Int32)), (.int (7 : Int32))])) _
      refine XS.icmpNo X82.here hx rfl (hb hby at_23) rfl (tlt (by decide)).2.2.2 ?_
      show Steps p.tables e below (T82.setTop (mkF m 26 #[.val (.int p1), .val (.int p2), .val (.int (7 : Int32)), .val (.ref b79), .unset, .unset] [])) _
      refine XS.aloadN X82.here hx rfl (hb hby at_26) rfl rfl ?_
      show Steps p.tables e below (T82.setTop (mkF m 27 #[.val (.int p1), .val (.int p2), .val (.int (7 : Int32)), .val (.ref b79), .unset, .unset] [(.ref b79)])) _
      refine XS.iconst X82.here hx rfl (hb hby at_27) ?_
      show Steps p.tables e below (T82.setTop (mkF m 28 #[.val (.int p1), .val (.int p2), .val (.int (7 : Int32)), .val (.ref b79), .unset, .unset] [(.int (1 : Int32)), (.ref b79)])) _
      refine XS.iloadN X82.here hx rfl (hb hby at_28) rfl ?_
      show Steps p.tables e below (T82.setTop (mkF m 29 #[.val (.int p1), .val (.int p2), .val (.int (7 : Int32)), .val (.ref b79), .unset, .unset] [(.int p2), (.int (1 : Int32)), (.ref b79)])) _
      refine XS.iconst X82.here hx rfl (hb hby at_29) ?_
      show Steps p.tables e below (T82.setTop (mkF m 30 #[.val (.int p1), .val (.int p2), .val (.int (7 : Int32)), .val (.ref b79), .unset, .unset] [(.int (1 : Int32)), (.int p2), (.int (1 : Int32)), (.ref b79)])) _
      refine st83 _ ?_
      show Steps p.tables e below (T83.setTop (mkF m 33 #[.val (.int p1), .val (.int p2), .val (.int (7 : Int32)), .val (.ref b79), .unset, .unset] [(.int (own_bit p2 (1 : Int32))), (.int (1 : Int32)), (.ref b79)])) _
      refine st85 _ ?_
      show Steps p.tables e below (T85.setTop (mkF m 34 #[.val (.int p1), .val (.int p2), .val (.int (7 : Int32)), .val (.ref b79), .unset, .unset] [])) _
      refine XS.iloadN X85.here hx rfl (hb hby at_34) rfl ?_
      show Steps p.tables e below (T85.setTop (mkF m 35 #[.val (.int p1), .val (.int p2), .val (.int (7 : Int32)), .val (.ref b79), .unset, .unset] [(.int (7 : Int32))])) _
      refine XS.iconst X85.here hx rfl (hb hby at_35) ?_
      show Steps p.tables e below (T85.setTop (mkF m 36 #[.val (.int p1), .val (.int p2), .val (.int (7 : Int32)), .val (.ref b79), .unset, .unset] [(.int (2 : Int32)), (.int (7 : Int32))])) _
      refine XS.icmpNo X85.here hx rfl (hb hby at_36) rfl (tlt (by decide)).2.2.2 ?_
      show Steps p.tables e below (T85.setTop (mkF m 39 #[.val (.int p1), .val (.int p2), .val (.int (7 : Int32)), .val (.ref b79), .unset, .unset] [])) _
      refine XS.aloadN X85.here hx rfl (hb hby at_39) rfl rfl ?_
      show Steps p.tables e below (T85.setTop (mkF m 40 #[.val (.int p1), .val (.int p2), .val (.int (7 : Int32)), .val (.ref b79), .unset, .unset] [(.ref b79)])) _
      refine XS.iconst X85.here hx rfl (hb hby at_40) ?_
      show Steps p.tables e below (T85.setTop (mkF m 41 #[.val (.int p1), .val (.int p2), .val (.int (7 : Int32)), .val (.ref b79), .unset, .unset] [(.int (2 : Int32)), (.ref b79)])) _
      refine XS.iloadN X85.here hx rfl (hb hby at_41) rfl ?_
      show Steps p.tables e below (T85.setTop (mkF m 42 #[.val (.int p1), .val (.int p2), .val (.int (7 : Int32)), .val (.ref b79), .unset, .unset] [(.int p2), (.int (2 : Int32)), (.ref b79)])) _
      refine XS.iconst X85.here hx rfl (hb hby at_42) ?_
      show Steps p.tables e below (T85.setTop (mkF m 43 #[.val (.int p1), .val (.int p2), .val (.int (7 : Int32)), .val (.ref b79), .unset, .unset] [(.int (2 : Int32)), (.int p2), (.int (2 : Int32)), (.ref b79)])) _
      refine st86 _ ?_
      show Steps p.tables e below (T86.setTop (mkF m 46 #[.val (.int p1), .val (.int p2), .val (.int (7 : Int32)), .val (.ref b79), .unset, .unset] [(.int (own_bit p2 (2 : Int32))), (.int (2 : Int32)), (.ref b79)])) _
      refine st88 _ ?_
      show Steps p.tables e below (T88.setTop (mkF m 47 #[.val (.int p1), .val (.int p2), .val (.int (7 : Int32)), .val (.ref b79), .unset, .unset] [])) _
      refine XS.iloadN X88.here hx rfl (hb hby at_47) rfl ?_
      show Steps p.tables e below (T88.setTop (mkF m 48 #[.val (.int p1), .val (.int p2), .val (.int (7 : Int32)), .val (.ref b79), .unset, .unset] [(.int (7 : Int32))])) _
      refine XS.iconst X88.here hx rfl (hb hby at_48) ?_
      show Steps p.tables e below (T88.setTop (mkF m 49 #[.val (.int p1), .val (.int p2), .val (.int (7 : Int32)), .val (.ref b79), .unset, .unset] [(.int (3 : Int32)), (.int (7 : Int32))])) _
      refine XS.icmpNo X88.here hx rfl (hb hby at_49) rfl (tlt (by decide)).2.2.2 ?_
      show Steps p.tables e below (T88.setTop (mkF m 52 #[.val (.int p1), .val (.int p2), .val (.int (7 : Int32)), .val (.ref b79), .unset, .unset] [])) _
      refine XS.aloadN X88.here hx rfl (hb hby at_52) rfl rfl ?_
      show Steps p.tables e below (T88.setTop (mkF m 53 #[.val (.int p1), .val (.int p2), .val (.int (7 : Int32)), .val (.ref b79), .unset, .unset] [(.ref b79)])) _
      refine XS.iconst X88.here hx rfl (hb hby at_53) ?_
      show Steps p.tables e below (T88.setTop (mkF m 54 #[.val (.int p1), .val (.int p2), .val (.int (7 : Int32)), .val (.ref b79), .unset, .unset] [(.int (3 : Int32)), (.ref b79)])) _
      refine XS.iloadN X88.here hx rfl (hb hby at_54) rfl ?_
      show Steps p.tables e below (T88.setTop (mkF m 55 #[.val (.int p1), .val (.int p2), .val (.int (7 : Int32)), .val (.ref b79), .unset, .unset] [(.int p2), (.int (3 : Int32)), (.ref b79)])) _
      refine XS.iconst X88.here hx rfl (hb hby at_55) ?_
      show Steps p.tables e below (T88.setTop (mkF m 56 #[.val (.int p1), .val (.int p2), .val (.int (7 : Int32)), .val (.ref b79), .unset, .unset] [(.int (3 : Int32)), (.int p2), (.int (3 : Int32)), (.ref b79)])) _
      refine st89 _ ?_
      show Steps p.tables e below (T89.setTop (mkF m 59 #[.val (.int p1), .val (.int p2), .val (.int (7 : Int32)), .val (.ref b79), .unset, .unset] [(.int (own_bit p2 (3 : Int32))), (.int (3 : Int32)), (.ref b79)])) _
      refine st91 _ ?_
      show Steps p.tables e below (T91.setTop (mkF m 60 #[.val (.int p1), .val (.int p2), .val (.int (7 : Int32)), .val (.ref b79), .unset, .unset] [])) _
      refine XS.iloadN X91.here hx rfl (hb hby at_60) rfl ?_
      show Steps p.tables e below (T91.setTop (mkF m 61 #[.val (.int p1), .val (.int p2), .val (.int (7 : Int32)), .val (.ref b79), .unset, .unset] [(.int (7 : Int32))])) _
      refine XS.iconst X91.here hx rfl (hb hby at_61) ?_
      show Steps p.tables e below (T91.setTop (mkF m 62 #[.val (.int p1), .val (.int p2), .val (.int (7 : Int32)), .val (.ref b79), .unset, .unset] [(.int (4 : Int32)), (.int (7 : Int32))])) _
      refine XS.icmpNo X91.here hx rfl (hb hby at_62) rfl (tlt (by decide)).2.2.2 ?_
      show Steps p.tables e below (T91.setTop (mkF m 65 #[.val (.int p1), .val (.int p2), .val (.int (7 : Int32)), .val (.ref b79), .unset, .unset] [])) _
      refine XS.aloadN X91.here hx rfl (hb hby at_65) rfl rfl ?_
      show Steps p.tables e below (T91.setTop (mkF m 66 #[.val (.int p1), .val (.int p2), .val (.int (7 : Int32)), .val (.ref b79), .unset, .unset] [(.ref b79)])) _
      refine XS.iconst X91.here hx rfl (hb hby at_66) ?_
      show Steps p.tables e below (T91.setTop (mkF m 67 #[.val (.int p1), .val (.int p2), .val (.int (7 : Int32)), .val (.ref b79), .unset, .unset] [(.int (4 : Int32)), (.ref b79)])) _
      refine XS.iloadN X91.here hx rfl (hb hby at_67) rfl ?_
      show Steps p.tables e below (T91.setTop (mkF m 68 #[.val (.int p1), .val (.int p2), .val (.int (7 : Int32)), .val (.ref b79), .unset, .unset] [(.int p2), (.int (4 : Int32)), (.ref b79)])) _
      refine XS.iconst X91.here hx rfl (hb hby at_68) ?_
      show Steps p.tables e below (T91.setTop (mkF m 69 #[.val (.int p1), .val (.int p2), .val (.int (7 : Int32)), .val (.ref b79), .unset, .unset] [(.int (4 : Int32)), (.int p2), (.int (4 : Int32)), (.ref b79)])) _
      refine st92 _ ?_
      show Steps p.tables e below (T92.setTop (mkF m 72 #[.val (.int p1), .val (.int p2), .val (.int (7 : Int32)), .val (.ref b79), .unset, .unset] [(.int (own_bit p2 (4 : Int32))), (.int (4 : Int32)), (.ref b79)])) _
      refine st94 _ ?_
      show Steps p.tables e below (T94.setTop (mkF m 73 #[.val (.int p1), .val (.int p2), .val (.int (7 : Int32)), .val (.ref b79), .unset, .unset] [])) _
      refine XS.iloadN X94.here hx rfl (hb hby at_73) rfl ?_
      show Steps p.tables e below (T94.setTop (mkF m 74 #[.val (.int p1), .val (.int p2), .val (.int (7 : Int32)), .val (.ref b79), .unset, .unset] [(.int (7 : Int32))])) _
      refine XS.iconst X94.here hx rfl (hb hby at_74) ?_
      show Steps p.tables e below (T94.setTop (mkF m 75 #[.val (.int p1), .val (.int p2), .val (.int (7 : Int32)), .val (.ref b79), .unset, .unset] [(.int (5 : Int32)), (.int (7 : Int32))])) _
      refine XS.icmpNo X94.here hx rfl (hb hby at_75) rfl (tlt (by decide)).2.2.2 ?_
      show Steps p.tables e below (T94.setTop (mkF m 78 #[.val (.int p1), .val (.int p2), .val (.int (7 : Int32)), .val (.ref b79), .unset, .unset] [])) _
      refine XS.aloadN X94.here hx rfl (hb hby at_78) rfl rfl ?_
      show Steps p.tables e below (T94.setTop (mkF m 79 #[.val (.int p1), .val (.int p2), .val (.int (7 : Int32)), .val (.ref b79), .unset, .unset] [(.ref b79)])) _
      refine XS.iconst X94.here hx rfl (hb hby at_79) ?_
      show Steps p.tables e below (T94.setTop (mkF m 80 #[.val (.int p1), .val (.int p2), .val (.int (7 : Int32)), .val (.ref b79), .unset, .unset] [(.int (5 : Int32)), (.ref b79)])) _
      refine XS.iloadN X94.here hx rfl (hb hby at_80) rfl ?_
      show Steps p.tables e below (T94.setTop (mkF m 81 #[.val (.int p1), .val (.int p2), .val (.int (7 : Int32)), .val (.ref b79), .unset, .unset] [(.int p2), (.int (5 : Int32)), (.ref b79)])) _
      refine XS.iconst X94.here hx rfl (hb hby at_81) ?_
      show Steps p.tables e below (T94.setTop (mkF m 82 #[.val (.int p1), .val (.int p2), .val (.int (7 : Int32)), .val (.ref b79), .unset, .unset] [(.int (5 : Int32)), (.int p2), (.int (5 : Int32)), (.ref b79)])) _
      refine st95 _ ?_
      show Steps p.tables e below (T95.setTop (mkF m 85 #[.val (.int p1), .val (.int p2), .val (.int (7 : Int32)), .val (.ref b79), .unset, .unset] [(.int (own_bit p2 (5 : Int32))), (.int (5 : Int32)), (.ref b79)])) _
      refine st97 _ ?_
      show Steps p.tables e below (T97.setTop (mkF m 86 #[.val (.int p1), .val (.int p2), .val (.int (7 : Int32)), .val (.ref b79), .unset, .unset] [])) _
      refine XS.iloadN X97.here hx rfl (hb hby at_86) rfl ?_
      show Steps p.tables e below (T97.setTop (mkF m 87 #[.val (.int p1), .val (.int p2), .val (.int (7 : Int32)), .val (.ref b79), .unset, .unset] [(.int (7 : Int32))])) _
      refine XS.bipush X97.here hx rfl (hb hby at_87) ?_
      show Steps p.tables e below (T97.setTop (mkF m 89 #[.val (.int p1), .val (.int p2), .val (.int (7 : Int32)), .val (.ref b79), .unset, .unset] [(.int (6 : Int32)), (.int (7 : Int32))])) _
      refine XS.icmpNo X97.here hx rfl (hb hby at_89) rfl (tlt (by decide)).2.2.2 ?_
      show Steps p.tables e below (T97.setTop (mkF m 92 #[.val (.int p1), .val (.int p2), .val (.int (7 : Int32)), .val (.ref b79), .unset, .unset] [])) _
      refine XS.aloadN X97.here hx rfl (hb hby at_92) rfl rfl ?_
      show Steps p.tables e below (T97.setTop (mkF m 93 #[.val (.int p1), .val (.int p2), .val (.int (7 : Int32)), .val (.ref b79), .unset, .unset] [(.ref b79)])) _
      refine XS.bipush X97.here hx rfl (hb hby at_93) ?_
      show Steps p.tables e below (T97.setTop (mkF m 95 #[.val (.int p1), .val (.int p2), .val (.int (7 : Int32)), .val (.ref b79), .unset, .unset] [(.int (6 : Int32)), (.ref b79)])) _
      refine XS.iloadN X97.here hx rfl (hb hby at_95) rfl ?_
      show Steps p.tables e below (T97.setTop (mkF m 96 #[.val (.int p1), .val (.int p2), .val (.int (7 : Int32)), .val (.ref b79), .unset, .unset] [(.int p2), (.int (6 : Int32)), (.ref b79)])) _
      refine XS.bipush X97.here hx rfl (hb hby at_96) ?_
      show Steps p.tables e below (T97.setTop (mkF m 98 #[.val (.int p1), .val (.int p2), .val (.int (7 : Int32)), .val (.ref b79), .unset, .unset] [(.int (6 : Int32)), (.int p2), (.int (6 : Int32)), (.ref b79)])) _
      refine st98 _ ?_
      show Steps p.tables e below (T98.setTop (mkF m 101 #[.val (.int p1), .val (.int p2), .val (.int (7 : Int32)), .val (.ref b79), .unset, .unset] [(.int (own_bit p2 (6 : Int32))), (.int (6 : Int32)), (.ref b79)])) _
      refine st100 _ ?_
      show Steps p.tables e below (T100.setTop (mkF m 102 #[.val (.int p1), .val (.int p2), .val (.int (7 : Int32)), .val (.ref b79), .unset, .unset] [])) _
      refine XS.iloadN X100.here hx rfl (hb hby at_102) rfl ?_
      show Steps p.tables e below (T100.setTop (mkF m 103 #[.val (.int p1), .val (.int p2), .val (.int (7 : Int32)), .val (.ref b79), .unset, .unset] [(.int p2)])) _
      refine XS.iconst X100.here hx rfl (hb hby at_103) ?_
      show Steps p.tables e below (T100.setTop (mkF m 104 #[.val (.int p1), .val (.int p2), .val (.int (7 : Int32)), .val (.ref b79), .unset, .unset] [(.int (1 : Int32)), (.int p2)])) _
      refine XS.iloadN X100.here hx rfl (hb hby at_104) rfl ?_
      show Steps p.tables e below (T100.setTop (mkF m 105 #[.val (.int p1), .val (.int p2), .val (.int (7 : Int32)), .val (.ref b79), .unset, .unset] [(.int (7 : Int32)), (.int (1 : Int32)), (.int p2)])) _
      refine XS.ishl X100.here hx rfl (hb hby at_105) rfl ?_
      show Steps p.tables e below (T100.setTop (mkF m 106 #[.val (.int p1), .val (.int p2), .val (.int (7 : Int32)), .val (.ref b79), .unset, .unset] [(.int ((1 : Int32) <<< ((7 : Int32) &&& 31))), (.int p2)])) _
      refine XS.iconst X100.here hx rfl (hb hby at_106) ?_
      show Steps p.tables e below (T100.setTop (mkF m 107 #[.val (.int p1), .val (.int p2), .val (.int (7 : Int32)), .val (.ref b79), .unset, .unset] [(.int (1 : Int32)), (.int ((1 : Int32) <<< ((7 : Int32) &&& 31))), (.int p2)])) _
      refine XS.isub X100.here hx rfl (hb hby at_107) rfl ?_
      show Steps p.tables e below (T100.setTop (mkF m 108 #[.val (.int p1), .val (.int p2), .val (.int (7 : Int32)), .val (.ref b79), .unset, .unset] [(.int (((1 : Int32) <<< ((7 : Int32) &&& 31)) - (1 : Int32))), (.int p2)])) _
      refine XS.iand X100.here hx rfl (hb hby at_108) rfl ?_
      show Steps p.tables e below (T100.setTop (mkF m 109 #[.val (.int p1), .val (.int p2), .val (.int (7 : Int32)), .val (.ref b79), .unset, .unset] [(.int (p2 &&& (((1 : Int32) <<< ((7 : Int32) &&& 31)) - (1 : Int32))))])) _
      refine XS.istore X100.here hx rfl (hb hby at_109) rfl (l' := #[.val (.int p1), .val (.int p2), .val (.int (7 : Int32)), .val (.ref b79), .val (.int (p2 &&& (((1 : Int32) <<< ((7 : Int32) &&& 31)) - (1 : Int32)))), .unset]) rfl ?_
      show Steps p.tables e below (T100.setTop (mkF m 111 #[.val (.int p1), .val (.int p2), .val (.int (7 : Int32)), .val (.ref b79), .val (.int (p2 &&& (((1 : Int32) <<< ((7 : Int32) &&& 31)) - (1 : Int32)))), .unset] [])) _
      refine sg111k7 _ ?_
      show Steps p.tables e below (T100.setTop (mkF m 121 #[.val (.int p1), .val (.int p2), .val (.int (7 : Int32)), .val (.ref b79), .val (.int (p2 &&& (((1 : Int32) <<< ((7 : Int32) &&& 31)) - (1 : Int32)))), .unset] [(.int j111_S0k7)])) _
      refine XS.istore X100.here hx rfl (hb hby at_121) rfl (l' := #[.val (.int p1), .val (.int p2), .val (.int (7 : Int32)), .val (.ref b79), .val (.int (p2 &&& (((1 : Int32) <<< ((7 : Int32) &&& 31)) - (1 : Int32)))), .val (.int j111_S0k7)]) rfl ?_
      show Steps p.tables e below (T100.setTop (mkF m 123 #[.val (.int p1), .val (.int p2), .val (.int (7 : Int32)), .val (.ref b79), .val (.int (p2 &&& (((1 : Int32) <<< ((7 : Int32) &&& 31)) - (1 : Int32)))), .val (.int j111_S0k7)] [])) _
      refine XS.aloadN X100.here hx rfl (hb hby at_123) rfl rfl ?_
      show Steps p.tables e below (T100.setTop (mkF m 124 #[.val (.int p1), .val (.int p2), .val (.int (7 : Int32)), .val (.ref b79), .val (.int (p2 &&& (((1 : Int32) <<< ((7 : Int32) &&& 31)) - (1 : Int32)))), .val (.int j111_S0k7)] [(.ref b79)])) _
      refine st101 _ ?_
      show Steps p.tables e below (T101.setTop (mkF m 127 #[.val (.int p1), .val (.int p2), .val (.int (7 : Int32)), .val (.ref b79), .val (.int (p2 &&& (((1 : Int32) <<< ((7 : Int32) &&& 31)) - (1 : Int32)))), .val (.int j111_S0k7)] [(.int (own_any7 (nar .boolean (own_bit p2 (0 : Int32))) (nar .boolean (own_bit p2 (1 : Int32))) (nar .boolean (own_bit p2 (2 : Int32))) (nar .boolean (own_bit p2 (3 : Int32))) (nar .boolean (own_bit p2 (4 : Int32))) (nar .boolean (own_bit p2 (5 : Int32))) (nar .boolean (own_bit p2 (6 : Int32)))))])) _
      refine XS.iload X101.here hx rfl (hb hby at_127) rfl ?_
      show Steps p.tables e below (T101.setTop (mkF m 129 #[.val (.int p1), .val (.int p2), .val (.int (7 : Int32)), .val (.ref b79), .val (.int (p2 &&& (((1 : Int32) <<< ((7 : Int32) &&& 31)) - (1 : Int32)))), .val (.int j111_S0k7)] [(.int j111_S0k7), (.int (own_any7 (nar .boolean (own_bit p2 (0 : Int32))) (nar .boolean (own_bit p2 (1 : Int32))) (nar .boolean (own_bit p2 (2 : Int32))) (nar .boolean (own_bit p2 (3 : Int32))) (nar .boolean (own_bit p2 (4 : Int32))) (nar .boolean (own_bit p2 (5 : Int32))) (nar .boolean (own_bit p2 (6 : Int32)))))])) _
      refine XS.icmpNo X101.here hx rfl (hb hby at_129) rfl (teq ((own_all7 p2).trans ej111_S0k7.symm)).2 ?_
      show Steps p.tables e below (T101.setTop (mkF m 132 #[.val (.int p1), .val (.int p2), .val (.int (7 : Int32)), .val (.ref b79), .val (.int (p2 &&& (((1 : Int32) <<< ((7 : Int32) &&& 31)) - (1 : Int32)))), .val (.int j111_S0k7)] [])) _
      refine XS.iconst X101.here hx rfl (hb hby at_132) ?_
      show Steps p.tables e below (T101.setTop (mkF m 133 #[.val (.int p1), .val (.int p2), .val (.int (7 : Int32)), .val (.ref b79), .val (.int (p2 &&& (((1 : Int32) <<< ((7 : Int32) &&& 31)) - (1 : Int32)))), .val (.int j111_S0k7)] [(.int (1 : Int32))])) _
      refine XS.goto X101.here hx rfl (pc0 := 133) (pc' := 137) rfl (hb hby at_133) (by decide) (by decide) ?_
      show Steps p.tables e below (T101.setTop (mkF m 137 #[.val (.int p1), .val (.int p2), .val (.int (7 : Int32)), .val (.ref b79), .val (.int (p2 &&& (((1 : Int32) <<< ((7 : Int32) &&& 31)) - (1 : Int32)))), .val (.int j111_S0k7)] [(.int (1 : Int32))])) _
      exact retN X101 hx (t := .boolean) Bd.returns (by simp) (hb hby at_137) hr
    · show Q0 Z p1 p2 h0 n0 _ T101.heap _
      rw [e101]
      exact ⟨rfl, N101⟩
set_option maxRecDepth 65536 in
set_option maxHeartbeats 40000000 in
theorem comes_1 {Post : Tables → Env → Array Value → State → Outcome → State → Prop} (hpost : ∀ tb e args s v u, (limb_1_1.after args s (.returned v) u = true ∧ limb_1_2.after args s (.returned v) u = true ∧ True) → FrameEnd s (.returned v) u (Jvm.fieldLocs frame_1_writes args s ++ Jvm.arrayLocs frame_1_arrays args s ++ Jvm.staticLocs frame_1_statics s) 16 128 → Post tb e args s (.returned v) u) :
    ArmFor flags0 classFile x code maxLocals ret World_1 tables_1 room_1 Calls_1 rest_1 Pre_1 Post := by
  intro l hfl _ _ p e ha hc hk s m args below hf hA hF happ hP
  obtain ⟨hcalls, hrest, hpre⟩ := hP
  obtain ⟨-, -, -, hnamed, -, -, -, hat⟩ := (Spec.applies_iff hf).mp happ
  obtain ⟨hg, hn⟩ := and_e (Cond.before_iff.mp (show (Jvm.Cond.and given_1 narrow_1).before args s = true from hpre))
  obtain ⟨gc, g0⟩ := and_e hg
  obtain ⟨ga0, g1⟩ := and_e g0
  obtain ⟨w0, w1, rfl⟩ : ∃ w0 w1 : Value, args = #[w0, w1] := by
    have hs : args.size = 2 := by simpa [Cond.value, given_1] using gc
    obtain ⟨L⟩ := args
    match L, hs with
    | [w0, w1], _ => exact ⟨w0, w1, rfl⟩
  have hw := fun d (hd : d ∈ tables_1) => atoms_spec (ws := Jvm.Cond.code x code maxLocals ret :: tables_1) hat d (List.mem_cons_of_mem _ hd)
  have hfit : Fit s := fun {y c} hc i hi => by
    obtain ⟨ha, rfl⟩ := Array.getElem?_eq_some_iff.mp hc
    have q := List.all_eq_true.mp ((Array.all_eq_true_iff_forall_mem.mp hF) _ (Array.getElem_mem ha)) i (List.mem_range.mpr hi)
    simpa [Array.getElem?_eq_getElem hi] using q
  obtain ⟨i0, ei0⟩ := is_v ga0
  obtain rfl : w0 = (.int i0) := Option.some.inj ei0
  obtain ⟨i1, ei1⟩ := is_v g1
  obtain rfl : w1 = (.int i1) := Option.some.inj ei1
  obtain ⟨n, o, h1, h2, h3, _, L, rfl, ⟨rfl, N⟩, hq⟩ := rm0 l s _ hw tables_1 i0 i1 s.heap s.heap.size (Nat.le_refl _)  p e ha hc hk s m _ below hf ((Spec.applies_iff_loose hf).mp happ).1 ⟨rfl, State.Warmed39.refl s, rfl⟩ trivial
  refine ⟨n, _, h1, h2, h3, hpost _ _ _ _ _ _ ⟨Cond.after_iff.mpr rfl, Cond.after_iff.mpr (eq_i res_at (Term.int_eval (1)) rfl), trivial⟩ ⟨hq.1, hq.2.1, (hq.2.2.sift fun y hy => Or.inr (N y hy)).mono (by decide) (by decide)⟩⟩
theorem main_1_1 : Claimed_1_1 := comes_1 fun _ _ _ _ _ _ h hF => ⟨h.1, hF⟩
theorem main_1_2 : Claimed_1_2 := comes_1 fun _ _ _ _ _ _ h hF => ⟨h.2.1, hF⟩
end Jvm.Pilot.@@N@@
namespace Jvm.Pilot.@@N@@
open Jvm Jvm.ClassFile Sem Op Lib Jvm.Free Jvm.Stand Jvm.Pilot.@@N@@.Jvm.D
/-! MADE BY PROGRAM (witnessworld.py) out of the Statement's table words and the real class files: 11 classes; the members and pool entries that the words name. The judged class is class 1, her method 2. -/
namespace start1
open Jvm.ClassFile
def u (s : String) : CpInfo := .utf8 (stringToUtf16 s)
/-- a pool by its gaps: so many unusable entries, then the entry; so many at the end -/
def gap : Nat → List CpInfo → List CpInfo
  | 0, r => r
  | n + 1, r => .unusable :: gap n r
def poolList (es : List (Nat × CpInfo)) (last : Nat) : List CpInfo := es.foldr (fun e r => gap e.1 (e.2 :: r)) (gap last [])
def pool (es : List (Nat × CpInfo)) (last : Nat) : Array CpInfo := ⟨poolList es last⟩
def fileOf (pool : Array CpInfo) (this : Nat) (attrs : Array Attribute := #[]) (ms : Array MethodInfo := #[]) (fl : Nat := 33) (sup : Nat := 0) (ifs : Array Nat := #[]) (fds : Array FieldInfo := #[]) : ClassFile where
  minorVersion := 0
  majorVersion := 65
  constantPool := pool
  accessFlags := fl
  thisClass := this
  superClass := sup
  interfaces := ifs
  fields := fds
  methods := ms
  attributes := attrs
def plain (name : String) (sup : Option ClassId) : Class where
  name := name
  kind := .ordinary
  loader := none
  accessFlags := 33
  super := sup
  interfaces := #[]
  cf := none
  fields := #[]
  methods := #[]
  instanceTypes := #[]
  staticTypes := #[]
  resolved := #[]
  callSites := []
  init := .initialized
  statics := none
  mirror := none

def pool0 : Array CpInfo := pool [(5, u "<init>"), (0, u "()V"), (1, .class_ 10), (1, u "java/lang/Object")] 113

def k0m0 : Method := { name := "<init>", desc := "()V", sig := { parameters := [], returnType := none }, accessFlags := 1, code := none }
/-- java/lang/Object -/
def k0 : Class := { plain "java/lang/Object" none with
  accessFlags := 33
  interfaces := #[]
  cf := some (fileOf pool0 8 #[] #[{ accessFlags := 1, nameIndex := 5, descriptorIndex := 6, attributes := #[] }] 33 0 #[] #[])
  fields := #[]
  methods := #[k0m0]
  instanceTypes := #[]
  staticTypes := #[]
  resolved := Array.replicate 124 none
  statics := none }

def pool1 : Array CpInfo := pool [(2, .class_ 4), (1, u "java/lang/Object"), (0, u "<init>"), (0, u "()V"), (0, .methodref 8 9), (0, .class_ 10), (0, .nameAndType 11 12), (0, u "com/example/braided_tour/braidedtour/choice/LogitAnyAvailablePinLaw"), (0, u "bit"), (0, u "(II)Z"), (0, .methodref 14 15), (0, .class_ 16), (0, .nameAndType 17 18), (0, u "com/example/braided_tour/braidedtour/choice/Logit"), (0, u "anyAvailable"), (0, u "([Z)Z"), (3, u "law")] 4

def k1m0 : Method := { name := "<init>", desc := "()V", sig := { parameters := [], returnType := none }, accessFlags := 2, code := none }
def k1c1 : Code := { maxStack := 2, maxLocals := 2, code := method_2_code, exceptionTable := #[], attributes := #[] }
def k1m1 : Method := { name := "bit", desc := "(II)Z", sig := { parameters := [.int, .int], returnType := some .boolean }, accessFlags := 10, code := some k1c1 }
def k1c2 : Code := { maxStack := 4, maxLocals := 6, code := code, exceptionTable := #[], attributes := #[] }
def k1m2 : Method := { name := "law", desc := "(II)Z", sig := { parameters := [.int, .int], returnType := some .boolean }, accessFlags := 9, code := some k1c2 }
/-- com/example/braided_tour/braidedtour/choice/LogitAnyAvailablePinLaw -/
def k1 : Class := { plain "com/example/braided_tour/braidedtour/choice/LogitAnyAvailablePinLaw" (some 0) with
  accessFlags := 49
  interfaces := #[]
  cf := some (fileOf pool1 8 #[] #[{ accessFlags := 2, nameIndex := 5, descriptorIndex := 6, attributes := #[] }, { accessFlags := 10, nameIndex := 11, descriptorIndex := 12, attributes := #[] }, { accessFlags := 9, nameIndex := 22, descriptorIndex := 12, attributes := #[] }] 49 2 #[] #[])
  fields := #[]
  methods := #[k1m0, k1m1, k1m2]
  instanceTypes := #[]
  staticTypes := #[]
  resolved := Array.replicate 27 none
  statics := none }

def pool2 : Array CpInfo := pool [(2, .class_ 4), (1, u "java/lang/Object"), (0, u "<init>"), (0, u "()V"), (34, .class_ 42), (0, u "com/example/braided_tour/braidedtour/choice/Logit"), (7, u "anyAvailable"), (0, u "([Z)Z")] 23

def k2m0 : Method := { name := "<init>", desc := "()V", sig := { parameters := [], returnType := none }, accessFlags := 2, code := none }
def k2c1 : Code := { maxStack := 2, maxLocals := 6, code := prog_7_method_3_code, exceptionTable := #[], attributes := #[] }
def k2m1 : Method := { name := "anyAvailable", desc := "([Z)Z", sig := { parameters := [(.array .boolean)], returnType := some .boolean }, accessFlags := 9, code := some k2c1 }
/-- com/example/braided_tour/braidedtour/choice/Logit -/
def k2 : Class := { plain "com/example/braided_tour/braidedtour/choice/Logit" (some 0) with
  accessFlags := 33
  interfaces := #[]
  cf := some (fileOf pool2 41 #[] #[{ accessFlags := 2, nameIndex := 5, descriptorIndex := 6, attributes := #[] }, { accessFlags := 9, nameIndex := 50, descriptorIndex := 51, attributes := #[] }] 33 2 #[] #[])
  fields := #[]
  methods := #[k2m0, k2m1]
  instanceTypes := #[]
  staticTypes := #[]
  resolved := Array.replicate 75 none
  statics := none }

def pool3 : Array CpInfo := pool [(1, u "java/lang/Cloneable"), (0, .class_ 1), (0, u "java/lang/Object"), (0, .class_ 3)] 3

/-- java/lang/Cloneable -/
def k3 : Class := { plain "java/lang/Cloneable" (some 0) with
  accessFlags := 1537
  interfaces := #[]
  cf := some (fileOf pool3 2 #[] #[] 1537 4 #[] #[])
  fields := #[]
  methods := #[]
  instanceTypes := #[]
  staticTypes := #[]
  resolved := Array.replicate 8 none
  statics := none }

def pool4 : Array CpInfo := pool [(1, u "java/io/Serializable"), (0, .class_ 1), (0, u "java/lang/Object"), (0, .class_ 3)] 3

/-- java/io/Serializable -/
def k4 : Class := { plain "java/io/Serializable" (some 0) with
  accessFlags := 1537
  interfaces := #[]
  cf := some (fileOf pool4 2 #[] #[] 1537 4 #[] #[])
  fields := #[]
  methods := #[]
  instanceTypes := #[]
  staticTypes := #[]
  resolved := Array.replicate 8 none
  statics := none }

/-- the primitive boolean -/
def k5 : Class := { plain "boolean" none with kind := .primitive 'Z', accessFlags := 0x411 }
/-- [Z -/
def k6 : Class := { plain "[Z" (some 0) with kind := .array 5 .boolean, interfaces := #[3, 4], accessFlags := 1041 }

/-- the primitive byte -/
def k7 : Class := { plain "byte" none with kind := .primitive 'B', accessFlags := 0x411 }
/-- [B -/
def k8 : Class := { plain "[B" (some 0) with kind := .array 7 .byte, interfaces := #[3, 4], accessFlags := 1041 }

/-- the primitive int -/
def k9 : Class := { plain "int" none with kind := .primitive 'I', accessFlags := 0x411 }
/-- [I -/
def k10 : Class := { plain "[I" (some 0) with kind := .array 9 .int, interfaces := #[3, 4], accessFlags := 1041 }

def heap : Heap := #[]
def classes : Array Class := #[k0, k1, k2, k3, k4, k5, k6, k7, k8, k9, k10]
def interned : List (Array UInt16 × Addr) := []
def slotsUsed : Nat := 0
def theMethod : MethodId := ⟨1, 2⟩
def args0 : Array Value := #[.int 3, .int 2]
def aboutOver (below : List Frame) : State where
  vm := { classes := classes, interned := interned.toArray }
  heap := heap
  slotsUsed := slotsUsed
  threads := #[{ frames := .invoking theMethod args0 :: below }]
def below0 : List Frame := [.native { method := ⟨0, 0⟩, args := #[] }]
def about1 : State := aboutOver below0
def p0 : Program := .bare "" "" ""
def e0 : Env := launch0.env 0 0 0
theorem w_frames : about1.frames = Frame.invoking theMethod args0 :: below0 := rfl
set_option maxRecDepth 65536 in
theorem w_args : argsFit about1.vm theMethod args0 = true := by decide +kernel
set_option maxRecDepth 65536 in
theorem w_heap : heapFits about1 = true := by decide +kernel
set_option maxRecDepth 65536 in
theorem w_runnable : about1.curStatus? = some .runnable := by decide +kernel
set_option maxRecDepth 65536 in
theorem w_alone : about1.alone = true := by decide +kernel
set_option maxRecDepth 65536 in
theorem w_named : about1.methodNamed? x = some theMethod := by decide +kernel
set_option maxRecDepth 65536 in
theorem w_hears : about1.hears theMethod below0 = true := by decide +kernel
set_option maxRecDepth 65536 in
theorem w_ripe : about1.ripe theMethod args0 below0 = true := by decide +kernel
theorem w_running : about1.status = .running := rfl
set_option maxRecDepth 65536 in
theorem w_room : about1.hasRoom e0.platform room_1 = true :=
  launch0.hasRoom_least _ room_1 (by decide +kernel) (by decide +kernel) (by decide +kernel) (by decide +kernel) (by decide +kernel) (by decide +kernel)
theorem allAtoms_all (ts : List Jvm.Cond) (a : Array Jvm.Value) (st : Jvm.State) : (allAtoms ts).before a st = ts.all (fun c => c.before a st) := by
  induction ts with
  | nil => rfl
  | cons c t ih =>
    show (Jvm.Cond.and c (allAtoms t)).before a st = _
    rw [Jvm.Cond.before_and, ih, List.all_cons]
def words1 : List Jvm.Cond := Jvm.Cond.code x code maxLocals ret :: tables_1
/-- a 'code' word, met by the world's own term for the bytes: nothing is compared byte by byte -/
theorem code_word {y : MethodName} {bytes : ByteArray} {mx : Nat} {rt : Option FieldType} {a : Array Value} {s : State} {m : MethodId} {meth : Method} {c : Code} (h1 : s.methodNamed? y = some m) (h2 : s.vm.method? m = some meth) (h3 : meth.code = some c) (h4 : c.code = bytes)
    (h5 : (c.maxLocals == mx && c.exceptionTable.isEmpty && decide (c.maxStack ≤ mostOperands) && decide (meth.sig.returnType = rt) && !meth.locks && decide (parseMethodDescriptor y.desc = some meth.sig)) = true) : (Jvm.Cond.code y bytes mx rt).before a s = true := by
  simp only [Bool.and_eq_true, beq_iff_eq, Bool.not_eq_true', decide_eq_true_eq] at h5
  obtain ⟨⟨⟨⟨⟨g1, g2⟩, g3⟩, g4⟩, g5⟩, g6⟩ := h5
  simp [Cond.before, Cond.holds, Cond.value, h1, h2, h3, h4, g1, g2, g3, g4, g5, g6]
def isCode : Jvm.Cond → Bool
  | .code _ _ _ _ => true
  | _ => false
theorem all_split {L : List Jvm.Cond} {P : Jvm.Cond → Bool} (h1 : L.all (fun c => isCode c || P c) = true) (h2 : ∀ c ∈ L.filter isCode, P c = true) : L.all P = true := by
  refine List.all_eq_true.mpr fun c hc => ?_
  have h := List.all_eq_true.mp h1 c hc
  rcases Bool.eq_false_or_eq_true (isCode c) with hi | hi
  · exact h2 c (List.mem_filter.mpr ⟨hc, hi⟩)
  · simpa [hi] using h
set_option maxRecDepth 65536 in
theorem w_c0 : (Jvm.Cond.code x code maxLocals ret).before args0 about1 = true := code_word (m := ⟨1, 2⟩) (meth := k1m2) (c := k1c2) (by decide +kernel) rfl rfl rfl (by decide +kernel)
set_option maxRecDepth 65536 in
theorem w_c1 : (Jvm.Cond.code ({ cls := "com/example/braided_tour/braidedtour/choice/Logit", name := "anyAvailable", desc := "([Z)Z" } : Jvm.MethodName) prog_7_method_3_code (6 : Nat) (Option.some Jvm.ClassFile.FieldType.boolean)).before args0 about1 = true := code_word (m := ⟨2, 1⟩) (meth := k2m1) (c := k2c1) (by decide +kernel) rfl rfl rfl (by decide +kernel)
set_option maxRecDepth 65536 in
theorem w_c2 : (Jvm.Cond.code ({ cls := "com/example/braided_tour/braidedtour/choice/LogitAnyAvailablePinLaw", name := "bit", desc := "(II)Z" } : Jvm.MethodName) method_2_code (2 : Nat) (Option.some Jvm.ClassFile.FieldType.boolean)).before args0 about1 = true := code_word (m := ⟨1, 1⟩) (meth := k1m1) (c := k1c1) (by decide +kernel) rfl rfl rfl (by decide +kernel)
def codes1 : List Jvm.Cond := [Jvm.Cond.code x code maxLocals ret, Jvm.Cond.code ({ cls := "com/example/braided_tour/braidedtour/choice/Logit", name := "anyAvailable", desc := "([Z)Z" } : Jvm.MethodName) prog_7_method_3_code (6 : Nat) (Option.some Jvm.ClassFile.FieldType.boolean), Jvm.Cond.code ({ cls := "com/example/braided_tour/braidedtour/choice/LogitAnyAvailablePinLaw", name := "bit", desc := "(II)Z" } : Jvm.MethodName) method_2_code (2 : Nat) (Option.some Jvm.ClassFile.FieldType.boolean)]
set_option maxRecDepth 65536 in
theorem codes_eq : words1.filter isCode = codes1 := rfl
theorem w_codes : ∀ c ∈ words1.filter isCode, c.before args0 about1 = true := by
  rw [codes_eq]
  intro c hc
  simp only [codes1, List.mem_cons, List.not_mem_nil, or_false] at hc
  rcases hc with rfl | rfl | rfl
  · exact w_c0
  · exact w_c1
  · exact w_c2
set_option maxRecDepth 65536 in
theorem w_t1 : words1.all (fun c => isCode c || c.before args0 about1) = true := by decide +kernel
theorem w_tables : (allAtoms (Jvm.Cond.code x code maxLocals ret :: tables_1)).before args0 about1 = true := by
  rw [allAtoms_all]
  show words1.all (fun c => c.before args0 about1) = true
  refine all_split ?_ w_codes
  rw [w_t1]
set_option maxRecDepth 65536 in
theorem w_case : (Jvm.Cond.and given_1 narrow_1).before args0 about1 = true := by decide +kernel
theorem w_applies : (headSpec (Jvm.Cond.code x code maxLocals ret :: tables_1) room_1).applies x e0.platform about1 = true :=
  (Spec.applies_iff w_frames).mpr ⟨w_running, w_runnable, w_alone, w_named, w_hears, w_ripe, w_room, w_tables⟩
theorem atStart : AtStart classFile x code maxLocals ret World_1 tables_1 room_1 Calls_1 rest_1 Pre_1 launch0 p0 e0 about1 theMethod args0 below0 :=
  ⟨lists_1, trivial, launch0.admits_env _ _ _, launch0.least_env, fairChoices_fair.cas, fairChoices_fair.clock, w_frames, w_args, w_heap, w_applies, trivial, trivial, w_case⟩
end start1
theorem witness_1 : WitnessClaimed_1 := ⟨start1.p0, start1.e0, start1.about1, start1.theMethod, start1.args0, start1.below0, start1.atStart⟩
end Jvm.Pilot.@@N@@
