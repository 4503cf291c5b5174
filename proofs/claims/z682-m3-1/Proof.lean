import JvmDerived
import JvmDerived.Pilot.@@N@@Statement
import JvmDerived.Pilot.@@N@@Code
set_option linter.unusedVariables false
set_option linter.unusedSimpArgs false
namespace Jvm.RoadKit
open Sem ClassFile Op Lib Jvm.Stand Jvm.Free Jvm.LawKit
section New
variable {p : Program} {l : Launch} {e : Env} {R : Room} {s : State} {m : MethodId} {args : Array Value} {below : List Frame} {meth : Method} {c : Code} {T : State} {locs : List Loc} {cells slots : Nat}
theorem retI (X : Stand p l e R s m args below meth c T locs cells slots) (hx : p.tables.exec = Jvm.exec) {pc : Nat} {Ls : Array Slot} {z : Int32} {rest : List Value} (hret : meth.sig.returnType = some .int) (hd : decode c.code pc = .ok (.ireturn, 1)) {fs : List Frame}
    (hl : ∀ (f : JFrame) (acts : List Action), f.method = m → f.locked = none → f.entered = [] → (doReturn e (T.setTop f) acts (some (.int z))).1 = T.setFrames fs) : Steps p.tables e below (T.setTop (mkF m pc Ls (.int z :: rest))) (T.setFrames fs) := by
  have hm' : T.vm.method? m = some meth := X.method'
  have hn : narrow .int (.int z) = .int z := rfl
  show Steps p.tables e below (T.setTop { method := m, pc := pc, locals := Ls, stack := _ :: rest, locked := none }) _
  jvm_step X.here [X.here.top, hx, hd, hm', hret, hn]
  first | (intro acts; rw [hl _ acts rfl rfl rfl]) | rw [hl _ _ rfl rfl rfl]
  exact Steps.refl _
end New
end Jvm.RoadKit
namespace Jvm.Pilot.@@N@@
open Jvm Jvm.ClassFile Sem Op Lib Jvm.Free Jvm.Stand Jvm.LawKit Jvm.RoadKit Bundle Jvm.Pilot.@@N@@.Jvm.D
theorem d2_0 : decode jdk_29_method_70_code 0 = .ok (.lload_n 0, 1) := by decide +kernel
theorem d2_1 : decode jdk_29_method_70_code 1 = .ok (.lload_n 2, 1) := by decide +kernel
theorem d2_2 : decode jdk_29_method_70_code 2 = .ok (.lcmp, 1) := by decide +kernel
theorem d2_3 : decode jdk_29_method_70_code 3 = .ok (.ifCond .gt 7, 3) := by decide +kernel
theorem d2_6 : decode jdk_29_method_70_code 6 = .ok (.lload_n 0, 1) := by decide +kernel
theorem d2_7 : decode jdk_29_method_70_code 7 = .ok (.goto 4, 3) := by decide +kernel
theorem d2_10 : decode jdk_29_method_70_code 10 = .ok (.lload_n 2, 1) := by decide +kernel
theorem d2_11 : decode jdk_29_method_70_code 11 = .ok (.lreturn, 1) := by decide +kernel
theorem ef2 (m : MethodId) (q1 : Int64) (q2 : Int64) : entryFrame m #[(.long q1), (.long q2)] 4 = mkF m 0 #[.val (.long q1), .second, .val (.long q2), .second] [] := by first | (simp [entryFrame, mkF, argsToLocals, Value.category]; done) | rfl
def own_f2 (q1 : Int64) (q2 : Int64) : Int64 := (if q2 < q1 then q2 else q1)
def Q2 (Z : State) (q1 : Int64) (q2 : Int64) (h0 : Heap) (n0 : Nat) (v : Option Value) (h : Heap) (L : List Loc) : Prop := v = some (.long (own_f2 q1 q2)) ∧ Fr n0 L ∧ h = h0
set_option maxRecDepth 65536 in
set_option maxHeartbeats 40000000 in
theorem rm2 (l : Launch) (Z : State) (a0 : Array Value) (hw : ∀ d ∈ tables_1, d.before a0 Z = true) (ws : List Jvm.Cond) (q1 : Int64) (q2 : Int64) (h0 : Heap) (n0 : Nat) (Z0 : n0 ≤ h0.size) :
    MetFree l (⟨"java/lang/Math", "min", "(JJ)J"⟩ : MethodName) (head1 (Jvm.Cond.code (⟨"java/lang/Math", "min", "(JJ)J"⟩ : MethodName) jdk_29_method_70_code 4 (some .long) :: ws) ({ frames := 0, cells := 0, slots := 0, locals := 0 } : Room)) (fun a U => a = #[(.long q1), (.long q2)] ∧ Z.Warmed39 U.vm ∧ U.heap = h0) (fun _ _ _ _ _ => True) (fun _ U o U' => ∃ v L, o = .returned v ∧ Q2 Z q1 q2 h0 n0 v U'.heap L ∧ FrameEnd U o U' L ({ frames := 0, cells := 0, slots := 0, locals := 0 } : Room).cells ({ frames := 0, cells := 0, slots := 0, locals := 0 } : Room).slots) := by
  refine MetFree.of_bodySF (Jvm.Free.JP.mathPlain rfl (by decide +kernel)) hisR ?_
  intro p e s m args below meth c s₁ Bd hml0 hP hK
  obtain ⟨rfl, hZ, hh⟩ := hP
  have hx := Bd.exec
  have hby := Bd.bytes
  have hml : c.maxLocals = 4 := hml0
  have hown : s.vm.findClass "java/lang/Math" = some m.cls := findClass_of_methodNamed Bd.named
  have hnm := (name_of_methodNamed Bd.named Bd.method).1
  have X0 : Stand p l e ({ frames := 0, cells := 0, slots := 0, locals := 0 } : Room) s m #[(.long q1), (.long q2)] below meth c s₁ [] 0 0 := Stand.of_body Bd
  have e0 : s₁.heap = h0 := by rw [← hh, Bd.state]; rfl
  have N0 := Fr.nil n0
  have pre0 : ∀ t, Steps p.tables e below (s₁.setTop (mkF m 0 #[.val (.long q1), .second, .val (.long q2), .second] [])) t → Steps p.tables e below (s₁.setTop (entryFrame m #[(.long q1), (.long q2)] 4)) t := fun t k => castTop (ef2 m q1 q2) k
  have c1 : ∀ t, Steps p.tables e below (s₁.setTop (mkF m 3 #[.val (.long q1), .second, .val (.long q2), .second] [(.int (lcmpW q1 q2))])) t → Steps p.tables e below (s₁.setTop (entryFrame m #[(.long q1), (.long q2)] 4)) t := fun t kt => by
    refine pre0 _ ?_
    show Steps p.tables e below (s₁.setTop (mkF m 0 #[.val (.long q1), .second, .val (.long q2), .second] [])) _
    refine XS.lloadN X0.here hx rfl (hb hby d2_0) rfl ?_
    show Steps p.tables e below (s₁.setTop (mkF m 1 #[.val (.long q1), .second, .val (.long q2), .second] [(.long q1)])) _
    refine XS.lloadN X0.here hx rfl (hb hby d2_1) rfl ?_
    show Steps p.tables e below (s₁.setTop (mkF m 2 #[.val (.long q1), .second, .val (.long q2), .second] [(.long q2), (.long q1)])) _
    refine XS.lcmp X0.here hx rfl (hb hby d2_2) rfl ?_
    exact kt
  by_cases hc3 : q2 < q1
  · obtain ⟨fs, hr, hrun, hended, hW, hsame⟩ := X0.leave (v := some (.long q2)) (fun h => by rw [Bd.returns] at h; cases h)
    refine ⟨_, _, c1 _ ?_, hrun, hended, _, _, rfl, ?_, ⟨_, rfl⟩, hW, hsame.mono (by decide) (by decide)⟩
    · show Steps p.tables e below (s₁.setTop (mkF m 3 #[.val (.long q1), .second, .val (.long q2), .second] [(.int (lcmpW q1 q2))])) _
      refine XS.ifYes X0.here hx rfl (pc0 := 3) (pc' := 10) rfl (hb hby d2_3) rfl ((if0 _ _).trans (tlt ((lw_gt q1 q2).mpr hc3)).2.2.1) (by decide) (by decide) ?_
      show Steps p.tables e below (s₁.setTop (mkF m 10 #[.val (.long q1), .second, .val (.long q2), .second] [])) _
      refine XS.lloadN X0.here hx rfl (hb hby d2_10) rfl ?_
      show Steps p.tables e below (s₁.setTop (mkF m 11 #[.val (.long q1), .second, .val (.long q2), .second] [(.long q2)])) _
      jvm_step X0.here [X0.here.top, hx, (hb hby d2_11), X0.method', Bd.returns, narrow]
      first | (intro acts; rw [hr _ acts rfl rfl rfl]) | rw [hr _ _ rfl rfl rfl]
      exact Steps.refl _
    · show Q2 Z q1 q2 h0 n0 _ s₁.heap _
      rw [e0]
      have hv : (own_f2 q1 q2) = q2 := by unfold own_f2; rw [if_pos hc3]
      exact ⟨by rw [hv], N0, rfl⟩
  · obtain ⟨fs, hr, hrun, hended, hW, hsame⟩ := X0.leave (v := some (.long q1)) (fun h => by rw [Bd.returns] at h; cases h)
    refine ⟨_, _, c1 _ ?_, hrun, hended, _, _, rfl, ?_, ⟨_, rfl⟩, hW, hsame.mono (by decide) (by decide)⟩
    · show Steps p.tables e below (s₁.setTop (mkF m 3 #[.val (.long q1), .second, .val (.long q2), .second] [(.int (lcmpW q1 q2))])) _
      refine XS.ifNo X0.here hx rfl (hb hby d2_3) rfl ((if0 _ _).trans (flt (fun q => hc3 ((lw_gt q1 q2).mp q))).2.2.1) ?_
      show Steps p.tables e below (s₁.setTop (mkF m 6 #[.val (.long q1), .second, .val (.long q2), .second] [])) _
      refine XS.lloadN X0.here hx rfl (hb hby d2_6) rfl ?_
      show Steps p.tables e below (s₁.setTop (mkF m 7 #[.val (.long q1), .second, .val (.long q2), .second] [(.long q1)])) _
      refine XS.goto X0.here hx rfl (pc0 := 7) (pc' := 11) rfl (hb hby d2_7) (by decide) (by decide) ?_
      show Steps p.tables e below (s₁.setTop (mkF m 11 #[.val (.long q1), .second, .val (.long q2), .second] [(.long q1)])) _
      jvm_step X0.here [X0.here.top, hx, (hb hby d2_11), X0.method', Bd.returns, narrow]
      first | (intro acts; rw [hr _ acts rfl rfl rfl]) | rw [hr _ _ rfl rfl rfl]
      exact Steps.refl _
    · show Q2 Z q1 q2 h0 n0 _ s₁.heap _
      rw [e0]
      have hv : (own_f2 q1 q2) = q1 := by unfold own_f2; rw [if_neg hc3]
      exact ⟨by rw [hv], N0, rfl⟩
theorem d1_0 : decode prog_266_method_29_code 0 = .ok (.ldc2_w 595, 3) := by decide +kernel
theorem d1_3 : decode prog_266_method_29_code 3 = .ok (.lload_n 0, 1) := by decide +kernel
theorem d1_4 : decode prog_266_method_29_code 4 = .ok (.lload_n 2, 1) := by decide +kernel
theorem d1_5 : decode prog_266_method_29_code 5 = .ok (.ladd, 1) := by decide +kernel
theorem d1_6 : decode prog_266_method_29_code 6 = .ok (.lload 4, 2) := by decide +kernel
theorem d1_8 : decode prog_266_method_29_code 8 = .ok (.ladd, 1) := by decide +kernel
theorem d1_9 : decode prog_266_method_29_code 9 = .ok (.invokestatic 597, 3) := by decide +kernel
theorem d1_12 : decode prog_266_method_29_code 12 = .ok (.lreturn, 1) := by decide +kernel
theorem pn1 : plainName "com/example/alternant/alternant/smv/Expressions" = true := by first | (simp [plainName, overriddenIn]; done) | decide +kernel
theorem pd1_0 : parseMethodDescriptor "(JJ)J" = some ⟨[.long, .long], some .long⟩ := by decide +kernel
theorem ef1 (m : MethodId) (q1 : Int64) (q2 : Int64) (q3 : Int64) : entryFrame m #[(.long q1), (.long q2), (.long q3)] 6 = mkF m 0 #[.val (.long q1), .second, .val (.long q2), .second, .val (.long q3), .second] [] := by first | (simp [entryFrame, mkF, argsToLocals, Value.category]; done) | rfl
def own_f1 (q1 : Int64) (q2 : Int64) (q3 : Int64) : Int64 := (own_f2 (1000001 : Int64) ((q1 + q2) + q3))
def Q1 (Z : State) (q1 : Int64) (q2 : Int64) (q3 : Int64) (h0 : Heap) (n0 : Nat) (v : Option Value) (h : Heap) (L : List Loc) : Prop := v = some (.long (own_f1 q1 q2 q3)) ∧ Fr n0 L ∧ h = h0
set_option maxRecDepth 65536 in
set_option maxHeartbeats 40000000 in
theorem rm1 (l : Launch) (Z : State) (a0 : Array Value) (hw : ∀ d ∈ tables_1, d.before a0 Z = true) (ws : List Jvm.Cond) (q1 : Int64) (q2 : Int64) (q3 : Int64) (h0 : Heap) (n0 : Nat) (Z0 : n0 ≤ h0.size) :
    MetFree l (⟨"com/example/alternant/alternant/smv/Expressions", "plus", "(JJJ)J"⟩ : MethodName) (head1 (Jvm.Cond.code (⟨"com/example/alternant/alternant/smv/Expressions", "plus", "(JJJ)J"⟩ : MethodName) prog_266_method_29_code 6 (some .long) :: ws) ({ frames := 1, cells := 0, slots := 0, locals := 15 } : Room)) (fun a U => a = #[(.long q1), (.long q2), (.long q3)] ∧ Z.Warmed39 U.vm ∧ U.heap = h0) (fun _ _ _ _ _ => True) (fun _ U o U' => ∃ v L, o = .returned v ∧ Q1 Z q1 q2 q3 h0 n0 v U'.heap L ∧ FrameEnd U o U' L ({ frames := 1, cells := 0, slots := 0, locals := 15 } : Room).cells ({ frames := 1, cells := 0, slots := 0, locals := 15 } : Room).slots) := by
  refine MetFree.of_bodySF (plainFor_of_name pn1) hisR ?_
  intro p e s m args below meth c s₁ Bd hml0 hP hK
  obtain ⟨rfl, hZ, hh⟩ := hP
  have hx := Bd.exec
  have hby := Bd.bytes
  have hml : c.maxLocals = 6 := hml0
  have hown : s.vm.findClass "com/example/alternant/alternant/smv/Expressions" = some m.cls := findClass_of_methodNamed Bd.named
  have hnm := (name_of_methodNamed Bd.named Bd.method).1
  have X0 : Stand p l e ({ frames := 1, cells := 0, slots := 0, locals := 15 } : Room) s m #[(.long q1), (.long q2), (.long q3)] below meth c s₁ [] 0 0 := Stand.of_body Bd
  have e0 : s₁.heap = h0 := by rw [← hh, Bd.state]; rfl
  have N0 := Fr.nil n0
  have pre0 : ∀ t, Steps p.tables e below (s₁.setTop (mkF m 0 #[.val (.long q1), .second, .val (.long q2), .second, .val (.long q3), .second] [])) t → Steps p.tables e below (s₁.setTop (entryFrame m #[(.long q1), (.long q2), (.long q3)] 6)) t := fun t k => castTop (ef1 m q1 q2 q3) k
  obtain ⟨_, _, ⟨T1, L1, k1, n1⟩, -, X1, ⟨Lc1, hQ1, l1, y1, z1⟩, st1⟩ := Jvm.LawKit.callS X0 hx (y := (⟨"java/lang/Math", "min", "(JJ)J"⟩ : MethodName)) hown (mvT hZ (hw _ (List.mem_of_getElem? (i := 6) rfl))) (mvT hZ (hw _ (List.mem_of_getElem? (i := 7) rfl))) (mvT hZ (hw _ (List.mem_of_getElem? (i := 8) rfl))) (mvT hZ (hw _ (List.mem_of_getElem? (i := 9) rfl))) (by decide) (backOf (W := 0) (rm2 l Z a0 hw [] (1000001 : Int64) ((q1 + q2) + q3) h0 n0 Z0 ) hZ (hw _ (List.mem_of_getElem? (i := 9) rfl)) (hw _ (List.mem_of_getElem? (i := 8) rfl)) (by decide) (by decide)) (g := (mkF m 9 #[.val (.long q1), .second, .val (.long q2), .second, .val (.long q3), .second] [(.long ((q1 + q2) + q3)), (.long (1000001 : Int64))])) rfl (by rw [hml]; rfl) (argsL := [(.long (1000001 : Int64)), (.long ((q1 + q2) + q3))]) (rest := []) (lenOf pd1_0 rfl) rfl (by show 2 * 0 + _ ≤ _; exact Nat.le_of_eq rfl) (hb hby d1_9) (fun _ _ => ⟨rfl, e0, (by decide : 0 + 0 ≤ _), (by decide : 0 + 0 ≤ _)⟩)
  dsimp only [Pt.U, Pt.locs, Pt.cells, Pt.slots] at X1 l1 y1 z1 st1 hQ1
  subst l1 y1 z1
  obtain ⟨rfl, N1q, e1⟩ := hQ1
  have N1 := Fr.app N0 N1q
  obtain ⟨fs, hr, hrun, hended, hW, hsame⟩ := X1.leave (v := some (.long (own_f2 (1000001 : Int64) ((q1 + q2) + q3)))) (fun h => by rw [Bd.returns] at h; cases h)
  refine ⟨_, _, pre0 _ ?_, hrun, hended, _, _, rfl, ?_, ⟨_, rfl⟩, hW, hsame.mono (by decide) (by decide)⟩
  · show Steps p.tables e below (s₁.setTop (mkF m 0 #[.val (.long q1), .second, .val (.long q2), .second, .val (.long q3), .second] [])) _
    refine X0.ldc2Long hx hown (mvT hZ (hw _ (List.mem_of_getElem? (i := 5) rfl))) (g := (mkF m 0 #[.val (.long q1), .second, .val (.long q2), .second, .val (.long q3), .second] [])) rfl (hb hby d1_0) _ ?_
    show Steps p.tables e below (s₁.setTop (mkF m 3 #[.val (.long q1), .second, .val (.long q2), .second, .val (.long q3), .second] [(.long (1000001 : Int64))])) _
    refine XS.lloadN X0.here hx rfl (hb hby d1_3) rfl ?_
    show Steps p.tables e below (s₁.setTop (mkF m 4 #[.val (.long q1), .second, .val (.long q2), .second, .val (.long q3), .second] [(.long q1), (.long (1000001 : Int64))])) _
    refine XS.lloadN X0.here hx rfl (hb hby d1_4) rfl ?_
    show Steps p.tables e below (s₁.setTop (mkF m 5 #[.val (.long q1), .second, .val (.long q2), .second, .val (.long q3), .second] [(.long q2), (.long q1), (.long (1000001 : Int64))])) _
    refine XS.ladd X0.here hx rfl (hb hby d1_5) rfl ?_
    show Steps p.tables e below (s₁.setTop (mkF m 6 #[.val (.long q1), .second, .val (.long q2), .second, .val (.long q3), .second] [(.long (q1 + q2)), (.long (1000001 : Int64))])) _
    refine XS.lload X0.here hx rfl (hb hby d1_6) rfl ?_
    show Steps p.tables e below (s₁.setTop (mkF m 8 #[.val (.long q1), .second, .val (.long q2), .second, .val (.long q3), .second] [(.long q3), (.long (q1 + q2)), (.long (1000001 : Int64))])) _
    refine XS.ladd X0.here hx rfl (hb hby d1_8) rfl ?_
    show Steps p.tables e below (s₁.setTop (mkF m 9 #[.val (.long q1), .second, .val (.long q2), .second, .val (.long q3), .second] [(.long ((q1 + q2) + q3)), (.long (1000001 : Int64))])) _
    refine st1 _ ?_
    show Steps p.tables e below (T1.setTop (mkF m 12 #[.val (.long q1), .second, .val (.long q2), .second, .val (.long q3), .second] [(.long (own_f2 (1000001 : Int64) ((q1 + q2) + q3)))])) _
    jvm_step X1.here [X1.here.top, hx, (hb hby d1_12), X1.method', Bd.returns, narrow]
    first | (intro acts; rw [hr _ acts rfl rfl rfl]) | rw [hr _ _ rfl rfl rfl]
    exact Steps.refl _
  · show Q1 Z q1 q2 q3 h0 n0 _ T1.heap _
    rw [e1]
    have hv : (own_f1 q1 q2 q3) = (own_f2 (1000001 : Int64) ((q1 + q2) + q3)) := by unfold own_f1; rfl
    exact ⟨by rw [hv], N1, rfl⟩
theorem own_le (a b c : Int64) (h : ¬ (1000000 : Int64) < (a + b) + c) : own_f1 a b c = (a + b) + c := by
  unfold own_f1 own_f2
  have g : (a + b) + c < (1000001 : Int64) := Int64.lt_iff_toInt_lt.mpr (by
    have : ¬ 1000000 < ((a + b) + c).toInt := fun e => h (Int64.lt_iff_toInt_lt.mpr e)
    show ((a + b) + c).toInt < 1000001
    omega)
  rw [if_pos g]
theorem own_gt (a b c : Int64) (h : (1000000 : Int64) < (a + b) + c) : own_f1 a b c = 1000001 := by
  unfold own_f1 own_f2
  have g : ¬ (a + b) + c < (1000001 : Int64) := fun e => by
    have h1 : 1000000 < ((a + b) + c).toInt := Int64.lt_iff_toInt_lt.mp h
    have h2 : ((a + b) + c).toInt < 1000001 := Int64.lt_iff_toInt_lt.mp e
    omega
  rw [if_neg g]
theorem pn0 : plainName "com/example/alternant/alternant/smv/ExpressionsPlusPinLaw" = true := by first | (simp [plainName, overriddenIn]; done) | decide +kernel
theorem pd0_0 : parseMethodDescriptor "(JJJ)J" = some ⟨[.long, .long, .long], some .long⟩ := by decide +kernel
theorem ef0 (m : MethodId) (q1 : Int64) (q2 : Int64) (q3 : Int64) : entryFrame m #[(.long q1), (.long q2), (.long q3)] maxLocals = mkF m 0 #[.val (.long q1), .second, .val (.long q2), .second, .val (.long q3), .second, .unset, .unset, .unset, .unset, .unset, .unset, .unset, .unset, .unset, .unset] [] := by first | (simp [entryFrame, mkF, argsToLocals, Value.category, maxLocals]; done) | rfl
def Q0 (Z : State) (q1 : Int64) (q2 : Int64) (q3 : Int64) (h0 : Heap) (n0 : Nat) (v : Option Value) (h : Heap) (L : List Loc) : Prop := v = some (.int (1 : Int32)) ∧ Fr n0 L
set_option maxRecDepth 65536 in
set_option maxHeartbeats 40000000 in
theorem rm0 (l : Launch) (Z : State) (a0 : Array Value) (hw : ∀ d ∈ tables_1, d.before a0 Z = true) (ws : List Jvm.Cond) (q1 : Int64) (q2 : Int64) (q3 : Int64) (h0 : Heap) (n0 : Nat) (Z0 : n0 ≤ h0.size) :
    MetFree l x (head1 (Jvm.Cond.code x code maxLocals ret :: ws) room_1) (fun a U => a = #[(.long q1), (.long q2), (.long q3)] ∧ Z.Warmed39 U.vm ∧ U.heap = h0) (fun _ _ _ _ _ => True) (fun _ U o U' => ∃ v L, o = .returned v ∧ Q0 Z q1 q2 q3 h0 n0 v U'.heap L ∧ FrameEnd U o U' L room_1.cells room_1.slots) := by
  refine MetFree.of_bodySF (plainFor_of_name pn0) hisR ?_
  intro p e s m args below meth c s₁ Bd hml0 hP hK
  obtain ⟨rfl, hZ, hh⟩ := hP
  have hx := Bd.exec
  have hby := Bd.bytes
  have hml : c.maxLocals = 16 := hml0
  have hown : s.vm.findClass "com/example/alternant/alternant/smv/ExpressionsPlusPinLaw" = some m.cls := findClass_of_methodNamed Bd.named
  have hnm := (name_of_methodNamed Bd.named Bd.method).1
  have X0 : Stand p l e room_1 s m #[(.long q1), (.long q2), (.long q3)] below meth c s₁ [] 0 0 := Stand.of_body Bd
  have e0 : s₁.heap = h0 := by rw [← hh, Bd.state]; rfl
  have N0 := Fr.nil n0
  have pre0 : ∀ t, Steps p.tables e below (s₁.setTop (mkF m 0 #[.val (.long q1), .second, .val (.long q2), .second, .val (.long q3), .second, .unset, .unset, .unset, .unset, .unset, .unset, .unset, .unset, .unset, .unset] [])) t → Steps p.tables e below (s₁.setTop (entryFrame m #[(.long q1), (.long q2), (.long q3)] maxLocals)) t := fun t k => castTop (ef0 m q1 q2 q3) k
  obtain ⟨_, _, ⟨T1, L1, k1, n1⟩, -, X1, ⟨Lc1, hQ1, l1, y1, z1⟩, st1⟩ := Jvm.LawKit.callS X0 hx (y := (⟨"com/example/alternant/alternant/smv/Expressions", "plus", "(JJJ)J"⟩ : MethodName)) hown (mvT hZ (hw _ (List.mem_of_getElem? (i := 1) rfl))) (mvT hZ (hw _ (List.mem_of_getElem? (i := 2) rfl))) (mvT hZ (hw _ (List.mem_of_getElem? (i := 3) rfl))) (mvT hZ (hw _ (List.mem_of_getElem? (i := 4) rfl))) (by decide) (backOf (W := 0) (rm1 l Z a0 hw [] (q1 &&& (1048575 : Int64)) (q2 &&& (1048575 : Int64)) (q3 &&& (1048575 : Int64)) h0 n0 Z0 ) hZ (hw _ (List.mem_of_getElem? (i := 4) rfl)) (hw _ (List.mem_of_getElem? (i := 3) rfl)) (by decide) (by decide)) (g := (mkF m 28 #[.val (.long q1), .second, .val (.long q2), .second, .val (.long q3), .second, .val (.long (q1 &&& (1048575 : Int64))), .second, .val (.long (q2 &&& (1048575 : Int64))), .second, .val (.long (q3 &&& (1048575 : Int64))), .second, .unset, .unset, .unset, .unset] [(.long (q3 &&& (1048575 : Int64))), (.long (q2 &&& (1048575 : Int64))), (.long (q1 &&& (1048575 : Int64)))])) rfl (by rw [hml]; rfl) (argsL := [(.long (q1 &&& (1048575 : Int64))), (.long (q2 &&& (1048575 : Int64))), (.long (q3 &&& (1048575 : Int64)))]) (rest := []) (lenOf pd0_0 rfl) rfl (by show 2 * 0 + _ ≤ _; exact Nat.le_of_eq rfl) (hb hby at_28) (fun _ _ => ⟨rfl, e0, (by decide : 0 + 0 ≤ _), (by decide : 0 + 0 ≤ _)⟩)
  dsimp only [Pt.U, Pt.locs, Pt.cells, Pt.slots] at X1 l1 y1 z1 st1 hQ1
  subst l1 y1 z1
  obtain ⟨rfl, N1q, e1⟩ := hQ1
  have N1 := Fr.app N0 N1q
  have c2 : ∀ t, Steps p.tables e below (T1.setTop (mkF m 49 #[.val (.long q1), .second, .val (.long q2), .second, .val (.long q3), .second, .val (.long (q1 &&& (1048575 : Int64))), .second, .val (.long (q2 &&& (1048575 : Int64))), .second, .val (.long (q3 &&& (1048575 : Int64))), .second, .val (.long (own_f1 (q1 &&& (1048575 : Int64)) (q2 &&& (1048575 : Int64)) (q3 &&& (1048575 : Int64)))), .second, .val (.long (((q1 &&& (1048575 : Int64)) + (q2 &&& (1048575 : Int64))) + (q3 &&& (1048575 : Int64)))), .second] [(.int (lcmpW (((q1 &&& (1048575 : Int64)) + (q2 &&& (1048575 : Int64))) + (q3 &&& (1048575 : Int64))) (1000000 : Int64)))])) t → Steps p.tables e below (s₁.setTop (entryFrame m #[(.long q1), (.long q2), (.long q3)] maxLocals)) t := fun t kt => by
    refine pre0 _ ?_
    show Steps p.tables e below (s₁.setTop (mkF m 0 #[.val (.long q1), .second, .val (.long q2), .second, .val (.long q3), .second, .unset, .unset, .unset, .unset, .unset, .unset, .unset, .unset, .unset, .unset] [])) _
    refine XS.lloadN X0.here hx rfl (hb hby at_0) rfl ?_
    show Steps p.tables e below (s₁.setTop (mkF m 1 #[.val (.long q1), .second, .val (.long q2), .second, .val (.long q3), .second, .unset, .unset, .unset, .unset, .unset, .unset, .unset, .unset, .unset, .unset] [(.long q1)])) _
    refine X0.ldc2Long hx hown (mvT hZ (hw _ (List.mem_of_getElem? (i := 0) rfl))) (g := (mkF m 1 #[.val (.long q1), .second, .val (.long q2), .second, .val (.long q3), .second, .unset, .unset, .unset, .unset, .unset, .unset, .unset, .unset, .unset, .unset] [(.long q1)])) rfl (hb hby at_1) _ ?_
    show Steps p.tables e below (s₁.setTop (mkF m 4 #[.val (.long q1), .second, .val (.long q2), .second, .val (.long q3), .second, .unset, .unset, .unset, .unset, .unset, .unset, .unset, .unset, .unset, .unset] [(.long (1048575 : Int64)), (.long q1)])) _
    refine XS.land X0.here hx rfl (hb hby at_4) rfl ?_
    show Steps p.tables e below (s₁.setTop (mkF m 5 #[.val (.long q1), .second, .val (.long q2), .second, .val (.long q3), .second, .unset, .unset, .unset, .unset, .unset, .unset, .unset, .unset, .unset, .unset] [(.long (q1 &&& (1048575 : Int64)))])) _
    refine XS.lstore X0.here hx rfl (hb hby at_5) rfl (l' := #[.val (.long q1), .second, .val (.long q2), .second, .val (.long q3), .second, .val (.long (q1 &&& (1048575 : Int64))), .second, .unset, .unset, .unset, .unset, .unset, .unset, .unset, .unset]) rfl ?_
    show Steps p.tables e below (s₁.setTop (mkF m 7 #[.val (.long q1), .second, .val (.long q2), .second, .val (.long q3), .second, .val (.long (q1 &&& (1048575 : Int64))), .second, .unset, .unset, .unset, .unset, .unset, .unset, .unset, .unset] [])) _
    refine XS.lloadN X0.here hx rfl (hb hby at_7) rfl ?_
    show Steps p.tables e below (s₁.setTop (mkF m 8 #[.val (.long q1), .second, .val (.long q2), .second, .val (.long q3), .second, .val (.long (q1 &&& (1048575 : Int64))), .second, .unset, .unset, .unset, .unset, .unset, .unset, .unset, .unset] [(.long q2)])) _
    refine X0.ldc2Long hx hown (mvT hZ (hw _ (List.mem_of_getElem? (i := 0) rfl))) (g := (mkF m 8 #[.val (.long q1), .second, .val (.long q2), .second, .val (.long q3), .second, .val (.long (q1 &&& (1048575 : Int64))), .second, .unset, .unset, .unset, .unset, .unset, .unset, .unset, .unset] [(.long q2)])) rfl (hb hby at_8) _ ?_
    show Steps p.tables e below (s₁.setTop (mkF m 11 #[.val (.long q1), .second, .val (.long q2), .second, .val (.long q3), .second, .val (.long (q1 &&& (1048575 : Int64))), .second, .unset, .unset, .unset, .unset, .unset, .unset, .unset, .unset] [(.long (1048575 : Int64)), (.long q2)])) _
    refine XS.land X0.here hx rfl (hb hby at_11) rfl ?_
    show Steps p.tables e below (s₁.setTop (mkF m 12 #[.val (.long q1), .second, .val (.long q2), .second, .val (.long q3), .second, .val (.long (q1 &&& (1048575 : Int64))), .second, .unset, .unset, .unset, .unset, .unset, .unset, .unset, .unset] [(.long (q2 &&& (1048575 : Int64)))])) _
    refine XS.lstore X0.here hx rfl (hb hby at_12) rfl (l' := #[.val (.long q1), .second, .val (.long q2), .second, .val (.long q3), .second, .val (.long (q1 &&& (1048575 : Int64))), .second, .val (.long (q2 &&& (1048575 : Int64))), .second, .unset, .unset, .unset, .unset, .unset, .unset]) rfl ?_
    show Steps p.tables e below (s₁.setTop (mkF m 14 #[.val (.long q1), .second, .val (.long q2), .second, .val (.long q3), .second, .val (.long (q1 &&& (1048575 : Int64))), .second, .val (.long (q2 &&& (1048575 : Int64))), .second, .unset, .unset, .unset, .unset, .unset, .unset] [])) _
    refine XS.lload X0.here hx rfl (hb hby at_14) rfl ?_
    show Steps p.tables e below (s₁.setTop (mkF m 16 #[.val (.long q1), .second, .val (.long q2), .second, .val (.long q3), .second, .val (.long (q1 &&& (1048575 : Int64))), .second, .val (.long (q2 &&& (1048575 : Int64))), .second, .unset, .unset, .unset, .unset, .unset, .unset] [(.long q3)])) _
    refine X0.ldc2Long hx hown (mvT hZ (hw _ (List.mem_of_getElem? (i := 0) rfl))) (g := (mkF m 16 #[.val (.long q1), .second, .val (.long q2), .second, .val (.long q3), .second, .val (.long (q1 &&& (1048575 : Int64))), .second, .val (.long (q2 &&& (1048575 : Int64))), .second, .unset, .unset, .unset, .unset, .unset, .unset] [(.long q3)])) rfl (hb hby at_16) _ ?_
    show Steps p.tables e below (s₁.setTop (mkF m 19 #[.val (.long q1), .second, .val (.long q2), .second, .val (.long q3), .second, .val (.long (q1 &&& (1048575 : Int64))), .second, .val (.long (q2 &&& (1048575 : Int64))), .second, .unset, .unset, .unset, .unset, .unset, .unset] [(.long (1048575 : Int64)), (.long q3)])) _
    refine XS.land X0.here hx rfl (hb hby at_19) rfl ?_
    show Steps p.tables e below (s₁.setTop (mkF m 20 #[.val (.long q1), .second, .val (.long q2), .second, .val (.long q3), .second, .val (.long (q1 &&& (1048575 : Int64))), .second, .val (.long (q2 &&& (1048575 : Int64))), .second, .unset, .unset, .unset, .unset, .unset, .unset] [(.long (q3 &&& (1048575 : Int64)))])) _
    refine XS.lstore X0.here hx rfl (hb hby at_20) rfl (l' := #[.val (.long q1), .second, .val (.long q2), .second, .val (.long q3), .second, .val (.long (q1 &&& (1048575 : Int64))), .second, .val (.long (q2 &&& (1048575 : Int64))), .second, .val (.long (q3 &&& (1048575 : Int64))), .second, .unset, .unset, .unset, .unset]) rfl ?_
    show Steps p.tables e below (s₁.setTop (mkF m 22 #[.val (.long q1), .second, .val (.long q2), .second, .val (.long q3), .second, .val (.long (q1 &&& (1048575 : Int64))), .second, .val (.long (q2 &&& (1048575 : Int64))), .second, .val (.long (q3 &&& (1048575 : Int64))), .second, .unset, .unset, .unset, .unset] [])) _
    refine XS.lload X0.here hx rfl (hb hby at_22) rfl ?_
    show Steps p.tables e below (s₁.setTop (mkF m 24 #[.val (.long q1), .second, .val (.long q2), .second, .val (.long q3), .second, .val (.long (q1 &&& (1048575 : Int64))), .second, .val (.long (q2 &&& (1048575 : Int64))), .second, .val (.long (q3 &&& (1048575 : Int64))), .second, .unset, .unset, .unset, .unset] [(.long (q1 &&& (1048575 : Int64)))])) _
    refine XS.lload X0.here hx rfl (hb hby at_24) rfl ?_
    show Steps p.tables e below (s₁.setTop (mkF m 26 #[.val (.long q1), .second, .val (.long q2), .second, .val (.long q3), .second, .val (.long (q1 &&& (1048575 : Int64))), .second, .val (.long (q2 &&& (1048575 : Int64))), .second, .val (.long (q3 &&& (1048575 : Int64))), .second, .unset, .unset, .unset, .unset] [(.long (q2 &&& (1048575 : Int64))), (.long (q1 &&& (1048575 : Int64)))])) _
    refine XS.lload X0.here hx rfl (hb hby at_26) rfl ?_
    show Steps p.tables e below (s₁.setTop (mkF m 28 #[.val (.long q1), .second, .val (.long q2), .second, .val (.long q3), .second, .val (.long (q1 &&& (1048575 : Int64))), .second, .val (.long (q2 &&& (1048575 : Int64))), .second, .val (.long (q3 &&& (1048575 : Int64))), .second, .unset, .unset, .unset, .unset] [(.long (q3 &&& (1048575 : Int64))), (.long (q2 &&& (1048575 : Int64))), (.long (q1 &&& (1048575 : Int64)))])) _
    refine st1 _ ?_
    show Steps p.tables e below (T1.setTop (mkF m 31 #[.val (.long q1), .second, .val (.long q2), .second, .val (.long q3), .second, .val (.long (q1 &&& (1048575 : Int64))), .second, .val (.long (q2 &&& (1048575 : Int64))), .second, .val (.long (q3 &&& (1048575 : Int64))), .second, .unset, .unset, .unset, .unset] [(.long (own_f1 (q1 &&& (1048575 : Int64)) (q2 &&& (1048575 : Int64)) (q3 &&& (1048575 : Int64))))])) _
    refine XS.lstore X1.here hx rfl (hb hby at_31) rfl (l' := #[.val (.long q1), .second, .val (.long q2), .second, .val (.long q3), .second, .val (.long (q1 &&& (1048575 : Int64))), .second, .val (.long (q2 &&& (1048575 : Int64))), .second, .val (.long (q3 &&& (1048575 : Int64))), .second, .val (.long (own_f1 (q1 &&& (1048575 : Int64)) (q2 &&& (1048575 : Int64)) (q3 &&& (1048575 : Int64)))), .second, .unset, .unset]) rfl ?_
    show Steps p.tables e below (T1.setTop (mkF m 33 #[.val (.long q1), .second, .val (.long q2), .second, .val (.long q3), .second, .val (.long (q1 &&& (1048575 : Int64))), .second, .val (.long (q2 &&& (1048575 : Int64))), .second, .val (.long (q3 &&& (1048575 : Int64))), .second, .val (.long (own_f1 (q1 &&& (1048575 : Int64)) (q2 &&& (1048575 : Int64)) (q3 &&& (1048575 : Int64)))), .second, .unset, .unset] [])) _
    refine XS.lload X1.here hx rfl (hb hby at_33) rfl ?_
    show Steps p.tables e below (T1.setTop (mkF m 35 #[.val (.long q1), .second, .val (.long q2), .second, .val (.long q3), .second, .val (.long (q1 &&& (1048575 : Int64))), .second, .val (.long (q2 &&& (1048575 : Int64))), .second, .val (.long (q3 &&& (1048575 : Int64))), .second, .val (.long (own_f1 (q1 &&& (1048575 : Int64)) (q2 &&& (1048575 : Int64)) (q3 &&& (1048575 : Int64)))), .second, .unset, .unset] [(.long (q1 &&& (1048575 : Int64)))])) _
    refine XS.lload X1.here hx rfl (hb hby at_35) rfl ?_
    show Steps p.tables e below (T1.setTop (mkF m 37 #[.val (.long q1), .second, .val (.long q2), .second, .val (.long q3), .second, .val (.long (q1 &&& (1048575 : Int64))), .second, .val (.long (q2 &&& (1048575 : Int64))), .second, .val (.long (q3 &&& (1048575 : Int64))), .second, .val (.long (own_f1 (q1 &&& (1048575 : Int64)) (q2 &&& (1048575 : Int64)) (q3 &&& (1048575 : Int64)))), .second, .unset, .unset] [(.long (q2 &&& (1048575 : Int64))), (.long (q1 &&& (1048575 : Int64)))])) _
    refine XS.ladd X1.here hx rfl (hb hby at_37) rfl ?_
    show Steps p.tables e below (T1.setTop (mkF m 38 #[.val (.long q1), .second, .val (.long q2), .second, .val (.long q3), .second, .val (.long (q1 &&& (1048575 : Int64))), .second, .val (.long (q2 &&& (1048575 : Int64))), .second, .val (.long (q3 &&& (1048575 : Int64))), .second, .val (.long (own_f1 (q1 &&& (1048575 : Int64)) (q2 &&& (1048575 : Int64)) (q3 &&& (1048575 : Int64)))), .second, .unset, .unset] [(.long ((q1 &&& (1048575 : Int64)) + (q2 &&& (1048575 : Int64))))])) _
    refine XS.lload X1.here hx rfl (hb hby at_38) rfl ?_
    show Steps p.tables e below (T1.setTop (mkF m 40 #[.val (.long q1), .second, .val (.long q2), .second, .val (.long q3), .second, .val (.long (q1 &&& (1048575 : Int64))), .second, .val (.long (q2 &&& (1048575 : Int64))), .second, .val (.long (q3 &&& (1048575 : Int64))), .second, .val (.long (own_f1 (q1 &&& (1048575 : Int64)) (q2 &&& (1048575 : Int64)) (q3 &&& (1048575 : Int64)))), .second, .unset, .unset] [(.long (q3 &&& (1048575 : Int64))), (.long ((q1 &&& (1048575 : Int64)) + (q2 &&& (1048575 : Int64))))])) _
    refine XS.ladd X1.here hx rfl (hb hby at_40) rfl ?_
    show Steps p.tables e below (T1.setTop (mkF m 41 #[.val (.long q1), .second, .val (.long q2), .second, .val (.long q3), .second, .val (.long (q1 &&& (1048575 : Int64))), .second, .val (.long (q2 &&& (1048575 : Int64))), .second, .val (.long (q3 &&& (1048575 : Int64))), .second, .val (.long (own_f1 (q1 &&& (1048575 : Int64)) (q2 &&& (1048575 : Int64)) (q3 &&& (1048575 : Int64)))), .second, .unset, .unset] [(.long (((q1 &&& (1048575 : Int64)) + (q2 &&& (1048575 : Int64))) + (q3 &&& (1048575 : Int64))))])) _
    refine XS.lstore X1.here hx rfl (hb hby at_41) rfl (l' := #[.val (.long q1), .second, .val (.long q2), .second, .val (.long q3), .second, .val (.long (q1 &&& (1048575 : Int64))), .second, .val (.long (q2 &&& (1048575 : Int64))), .second, .val (.long (q3 &&& (1048575 : Int64))), .second, .val (.long (own_f1 (q1 &&& (1048575 : Int64)) (q2 &&& (1048575 : Int64)) (q3 &&& (1048575 : Int64)))), .second, .val (.long (((q1 &&& (1048575 : Int64)) + (q2 &&& (1048575 : Int64))) + (q3 &&& (1048575 : Int64)))), .second]) rfl ?_
    show Steps p.tables e below (T1.setTop (mkF m 43 #[.val (.long q1), .second, .val (.long q2), .second, .val (.long q3), .second, .val (.long (q1 &&& (1048575 : Int64))), .second, .val (.long (q2 &&& (1048575 : Int64))), .second, .val (.long (q3 &&& (1048575 : Int64))), .second, .val (.long (own_f1 (q1 &&& (1048575 : Int64)) (q2 &&& (1048575 : Int64)) (q3 &&& (1048575 : Int64)))), .second, .val (.long (((q1 &&& (1048575 : Int64)) + (q2 &&& (1048575 : Int64))) + (q3 &&& (1048575 : Int64)))), .second] [])) _
    refine XS.lload X1.here hx rfl (hb hby at_43) rfl ?_
    show Steps p.tables e below (T1.setTop (mkF m 45 #[.val (.long q1), .second, .val (.long q2), .second, .val (.long q3), .second, .val (.long (q1 &&& (1048575 : Int64))), .second, .val (.long (q2 &&& (1048575 : Int64))), .second, .val (.long (q3 &&& (1048575 : Int64))), .second, .val (.long (own_f1 (q1 &&& (1048575 : Int64)) (q2 &&& (1048575 : Int64)) (q3 &&& (1048575 : Int64)))), .second, .val (.long (((q1 &&& (1048575 : Int64)) + (q2 &&& (1048575 : Int64))) + (q3 &&& (1048575 : Int64)))), .second] [(.long (((q1 &&& (1048575 : Int64)) + (q2 &&& (1048575 : Int64))) + (q3 &&& (1048575 : Int64))))])) _
    refine X1.ldc2Long hx hown (mvT hZ (hw _ (List.mem_of_getElem? (i := 10) rfl))) (g := (mkF m 45 #[.val (.long q1), .second, .val (.long q2), .second, .val (.long q3), .second, .val (.long (q1 &&& (1048575 : Int64))), .second, .val (.long (q2 &&& (1048575 : Int64))), .second, .val (.long (q3 &&& (1048575 : Int64))), .second, .val (.long (own_f1 (q1 &&& (1048575 : Int64)) (q2 &&& (1048575 : Int64)) (q3 &&& (1048575 : Int64)))), .second, .val (.long (((q1 &&& (1048575 : Int64)) + (q2 &&& (1048575 : Int64))) + (q3 &&& (1048575 : Int64)))), .second] [(.long (((q1 &&& (1048575 : Int64)) + (q2 &&& (1048575 : Int64))) + (q3 &&& (1048575 : Int64))))])) rfl (hb hby at_45) _ ?_
    show Steps p.tables e below (T1.setTop (mkF m 48 #[.val (.long q1), .second, .val (.long q2), .second, .val (.long q3), .second, .val (.long (q1 &&& (1048575 : Int64))), .second, .val (.long (q2 &&& (1048575 : Int64))), .second, .val (.long (q3 &&& (1048575 : Int64))), .second, .val (.long (own_f1 (q1 &&& (1048575 : Int64)) (q2 &&& (1048575 : Int64)) (q3 &&& (1048575 : Int64)))), .second, .val (.long (((q1 &&& (1048575 : Int64)) + (q2 &&& (1048575 : Int64))) + (q3 &&& (1048575 : Int64)))), .second] [(.long (1000000 : Int64)), (.long (((q1 &&& (1048575 : Int64)) + (q2 &&& (1048575 : Int64))) + (q3 &&& (1048575 : Int64))))])) _
    refine XS.lcmp X1.here hx rfl (hb hby at_48) rfl ?_
    exact kt
  by_cases hc49 : (1000000 : Int64) < (((q1 &&& (1048575 : Int64)) + (q2 &&& (1048575 : Int64))) + (q3 &&& (1048575 : Int64)))
  · obtain ⟨fs, hr, hrun, hended, hW, hsame⟩ := X1.leave (v := some (.int (1 : Int32))) (fun h => by rw [Bd.returns] at h; cases h)
    refine ⟨_, _, c2 _ ?_, hrun, hended, _, _, rfl, ?_, ⟨_, rfl⟩, hW, hsame.mono (by decide) (by decide)⟩
    · show Steps p.tables e below (T1.setTop (mkF m 49 #[.val (.long q1), .second, .val (.long q2), .second, .val (.long q3), .second, .val (.long (q1 &&& (1048575 : Int64))), .second, .val (.long (q2 &&& (1048575 : Int64))), .second, .val (.long (q3 &&& (1048575 : Int64))), .second, .val (.long (own_f1 (q1 &&& (1048575 : Int64)) (q2 &&& (1048575 : Int64)) (q3 &&& (1048575 : Int64)))), .second, .val (.long (((q1 &&& (1048575 : Int64)) + (q2 &&& (1048575 : Int64))) + (q3 &&& (1048575 : Int64)))), .second] [(.int (lcmpW (((q1 &&& (1048575 : Int64)) + (q2 &&& (1048575 : Int64))) + (q3 &&& (1048575 : Int64))) (1000000 : Int64)))])) _
      refine XS.ifYes X1.here hx rfl (pc0 := 49) (pc' := 66) rfl (hb hby at_49) rfl ((if0 _ _).trans (tlt ((lw_gt (((q1 &&& (1048575 : Int64)) + (q2 &&& (1048575 : Int64))) + (q3 &&& (1048575 : Int64))) (1000000 : Int64)).mpr hc49)).2.2.1) (by decide) (by decide) ?_
      show Steps p.tables e below (T1.setTop (mkF m 66 #[.val (.long q1), .second, .val (.long q2), .second, .val (.long q3), .second, .val (.long (q1 &&& (1048575 : Int64))), .second, .val (.long (q2 &&& (1048575 : Int64))), .second, .val (.long (q3 &&& (1048575 : Int64))), .second, .val (.long (own_f1 (q1 &&& (1048575 : Int64)) (q2 &&& (1048575 : Int64)) (q3 &&& (1048575 : Int64)))), .second, .val (.long (((q1 &&& (1048575 : Int64)) + (q2 &&& (1048575 : Int64))) + (q3 &&& (1048575 : Int64)))), .second] [])) _
      refine XS.lload X1.here hx rfl (hb hby at_66) rfl ?_
      show Steps p.tables e below (T1.setTop (mkF m 68 #[.val (.long q1), .second, .val (.long q2), .second, .val (.long q3), .second, .val (.long (q1 &&& (1048575 : Int64))), .second, .val (.long (q2 &&& (1048575 : Int64))), .second, .val (.long (q3 &&& (1048575 : Int64))), .second, .val (.long (own_f1 (q1 &&& (1048575 : Int64)) (q2 &&& (1048575 : Int64)) (q3 &&& (1048575 : Int64)))), .second, .val (.long (((q1 &&& (1048575 : Int64)) + (q2 &&& (1048575 : Int64))) + (q3 &&& (1048575 : Int64)))), .second] [(.long (own_f1 (q1 &&& (1048575 : Int64)) (q2 &&& (1048575 : Int64)) (q3 &&& (1048575 : Int64))))])) _
      refine X1.ldc2Long hx hown (mvT hZ (hw _ (List.mem_of_getElem? (i := 11) rfl))) (g := (mkF m 68 #[.val (.long q1), .second, .val (.long q2), .second, .val (.long q3), .second, .val (.long (q1 &&& (1048575 : Int64))), .second, .val (.long (q2 &&& (1048575 : Int64))), .second, .val (.long (q3 &&& (1048575 : Int64))), .second, .val (.long (own_f1 (q1 &&& (1048575 : Int64)) (q2 &&& (1048575 : Int64)) (q3 &&& (1048575 : Int64)))), .second, .val (.long (((q1 &&& (1048575 : Int64)) + (q2 &&& (1048575 : Int64))) + (q3 &&& (1048575 : Int64)))), .second] [(.long (own_f1 (q1 &&& (1048575 : Int64)) (q2 &&& (1048575 : Int64)) (q3 &&& (1048575 : Int64))))])) rfl (hb hby at_68) _ ?_
      show Steps p.tables e below (T1.setTop (mkF m 71 #[.val (.long q1), .second, .val (.long q2), .second, .val (.long q3), .second, .val (.long (q1 &&& (1048575 : Int64))), .second, .val (.long (q2 &&& (1048575 : Int64))), .second, .val (.long (q3 &&& (1048575 : Int64))), .second, .val (.long (own_f1 (q1 &&& (1048575 : Int64)) (q2 &&& (1048575 : Int64)) (q3 &&& (1048575 : Int64)))), .second, .val (.long (((q1 &&& (1048575 : Int64)) + (q2 &&& (1048575 : Int64))) + (q3 &&& (1048575 : Int64)))), .second] [(.long (1000001 : Int64)), (.long (own_f1 (q1 &&& (1048575 : Int64)) (q2 &&& (1048575 : Int64)) (q3 &&& (1048575 : Int64))))])) _
      refine XS.lcmp X1.here hx rfl (hb hby at_71) rfl ?_
      show Steps p.tables e below (T1.setTop (mkF m 72 #[.val (.long q1), .second, .val (.long q2), .second, .val (.long q3), .second, .val (.long (q1 &&& (1048575 : Int64))), .second, .val (.long (q2 &&& (1048575 : Int64))), .second, .val (.long (q3 &&& (1048575 : Int64))), .second, .val (.long (own_f1 (q1 &&& (1048575 : Int64)) (q2 &&& (1048575 : Int64)) (q3 &&& (1048575 : Int64)))), .second, .val (.long (((q1 &&& (1048575 : Int64)) + (q2 &&& (1048575 : Int64))) + (q3 &&& (1048575 : Int64)))), .second] [(.int (lcmpW (own_f1 (q1 &&& (1048575 : Int64)) (q2 &&& (1048575 : Int64)) (q3 &&& (1048575 : Int64))) (1000001 : Int64)))])) _
      refine XS.ifNo X1.here hx rfl (hb hby at_72) rfl ((if0 _ _).trans (teq ((lw_eq (own_f1 (q1 &&& (1048575 : Int64)) (q2 &&& (1048575 : Int64)) (q3 &&& (1048575 : Int64))) (1000001 : Int64)).mpr (own_gt _ _ _ hc49))).2) ?_
      show Steps p.tables e below (T1.setTop (mkF m 75 #[.val (.long q1), .second, .val (.long q2), .second, .val (.long q3), .second, .val (.long (q1 &&& (1048575 : Int64))), .second, .val (.long (q2 &&& (1048575 : Int64))), .second, .val (.long (q3 &&& (1048575 : Int64))), .second, .val (.long (own_f1 (q1 &&& (1048575 : Int64)) (q2 &&& (1048575 : Int64)) (q3 &&& (1048575 : Int64)))), .second, .val (.long (((q1 &&& (1048575 : Int64)) + (q2 &&& (1048575 : Int64))) + (q3 &&& (1048575 : Int64)))), .second] [])) _
      refine XS.iconst X1.here hx rfl (hb hby at_75) ?_
      show Steps p.tables e below (T1.setTop (mkF m 76 #[.val (.long q1), .second, .val (.long q2), .second, .val (.long q3), .second, .val (.long (q1 &&& (1048575 : Int64))), .second, .val (.long (q2 &&& (1048575 : Int64))), .second, .val (.long (q3 &&& (1048575 : Int64))), .second, .val (.long (own_f1 (q1 &&& (1048575 : Int64)) (q2 &&& (1048575 : Int64)) (q3 &&& (1048575 : Int64)))), .second, .val (.long (((q1 &&& (1048575 : Int64)) + (q2 &&& (1048575 : Int64))) + (q3 &&& (1048575 : Int64)))), .second] [(.int (1 : Int32))])) _
      refine XS.goto X1.here hx rfl (pc0 := 76) (pc' := 80) rfl (hb hby at_76) (by decide) (by decide) ?_
      show Steps p.tables e below (T1.setTop (mkF m 80 #[.val (.long q1), .second, .val (.long q2), .second, .val (.long q3), .second, .val (.long (q1 &&& (1048575 : Int64))), .second, .val (.long (q2 &&& (1048575 : Int64))), .second, .val (.long (q3 &&& (1048575 : Int64))), .second, .val (.long (own_f1 (q1 &&& (1048575 : Int64)) (q2 &&& (1048575 : Int64)) (q3 &&& (1048575 : Int64)))), .second, .val (.long (((q1 &&& (1048575 : Int64)) + (q2 &&& (1048575 : Int64))) + (q3 &&& (1048575 : Int64)))), .second] [(.int (1 : Int32))])) _
      exact retN X1 hx (t := .boolean) Bd.returns (by simp) (hb hby at_80) hr
    · show Q0 Z q1 q2 q3 h0 n0 _ T1.heap _
      rw [e1]
      exact ⟨rfl, N1⟩
  · obtain ⟨fs, hr, hrun, hended, hW, hsame⟩ := X1.leave (v := some (.int (1 : Int32))) (fun h => by rw [Bd.returns] at h; cases h)
    refine ⟨_, _, c2 _ ?_, hrun, hended, _, _, rfl, ?_, ⟨_, rfl⟩, hW, hsame.mono (by decide) (by decide)⟩
    · show Steps p.tables e below (T1.setTop (mkF m 49 #[.val (.long q1), .second, .val (.long q2), .second, .val (.long q3), .second, .val (.long (q1 &&& (1048575 : Int64))), .second, .val (.long (q2 &&& (1048575 : Int64))), .second, .val (.long (q3 &&& (1048575 : Int64))), .second, .val (.long (own_f1 (q1 &&& (1048575 : Int64)) (q2 &&& (1048575 : Int64)) (q3 &&& (1048575 : Int64)))), .second, .val (.long (((q1 &&& (1048575 : Int64)) + (q2 &&& (1048575 : Int64))) + (q3 &&& (1048575 : Int64)))), .second] [(.int (lcmpW (((q1 &&& (1048575 : Int64)) + (q2 &&& (1048575 : Int64))) + (q3 &&& (1048575 : Int64))) (1000000 : Int64)))])) _
      refine XS.ifNo X1.here hx rfl (hb hby at_49) rfl ((if0 _ _).trans (flt (fun q => hc49 ((lw_gt (((q1 &&& (1048575 : Int64)) + (q2 &&& (1048575 : Int64))) + (q3 &&& (1048575 : Int64))) (1000000 : Int64)).mp q))).2.2.1) ?_
      show Steps p.tables e below (T1.setTop (mkF m 52 #[.val (.long q1), .second, .val (.long q2), .second, .val (.long q3), .second, .val (.long (q1 &&& (1048575 : Int64))), .second, .val (.long (q2 &&& (1048575 : Int64))), .second, .val (.long (q3 &&& (1048575 : Int64))), .second, .val (.long (own_f1 (q1 &&& (1048575 : Int64)) (q2 &&& (1048575 : Int64)) (q3 &&& (1048575 : Int64)))), .second, .val (.long (((q1 &&& (1048575 : Int64)) + (q2 &&& (1048575 : Int64))) + (q3 &&& (1048575 : Int64)))), .second] [])) _
      refine XS.lload X1.here hx rfl (hb hby at_52) rfl ?_
      show Steps p.tables e below (T1.setTop (mkF m 54 #[.val (.long q1), .second, .val (.long q2), .second, .val (.long q3), .second, .val (.long (q1 &&& (1048575 : Int64))), .second, .val (.long (q2 &&& (1048575 : Int64))), .second, .val (.long (q3 &&& (1048575 : Int64))), .second, .val (.long (own_f1 (q1 &&& (1048575 : Int64)) (q2 &&& (1048575 : Int64)) (q3 &&& (1048575 : Int64)))), .second, .val (.long (((q1 &&& (1048575 : Int64)) + (q2 &&& (1048575 : Int64))) + (q3 &&& (1048575 : Int64)))), .second] [(.long (own_f1 (q1 &&& (1048575 : Int64)) (q2 &&& (1048575 : Int64)) (q3 &&& (1048575 : Int64))))])) _
      refine XS.lload X1.here hx rfl (hb hby at_54) rfl ?_
      show Steps p.tables e below (T1.setTop (mkF m 56 #[.val (.long q1), .second, .val (.long q2), .second, .val (.long q3), .second, .val (.long (q1 &&& (1048575 : Int64))), .second, .val (.long (q2 &&& (1048575 : Int64))), .second, .val (.long (q3 &&& (1048575 : Int64))), .second, .val (.long (own_f1 (q1 &&& (1048575 : Int64)) (q2 &&& (1048575 : Int64)) (q3 &&& (1048575 : Int64)))), .second, .val (.long (((q1 &&& (1048575 : Int64)) + (q2 &&& (1048575 : Int64))) + (q3 &&& (1048575 : Int64)))), .second] [(.long (((q1 &&& (1048575 : Int64)) + (q2 &&& (1048575 : Int64))) + (q3 &&& (1048575 : Int64)))), (.long (own_f1 (q1 &&& (1048575 : Int64)) (q2 &&& (1048575 : Int64)) (q3 &&& (1048575 : Int64))))])) _
      refine XS.lcmp X1.here hx rfl (hb hby at_56) rfl ?_
      show Steps p.tables e below (T1.setTop (mkF m 57 #[.val (.long q1), .second, .val (.long q2), .second, .val (.long q3), .second, .val (.long (q1 &&& (1048575 : Int64))), .second, .val (.long (q2 &&& (1048575 : Int64))), .second, .val (.long (q3 &&& (1048575 : Int64))), .second, .val (.long (own_f1 (q1 &&& (1048575 : Int64)) (q2 &&& (1048575 : Int64)) (q3 &&& (1048575 : Int64)))), .second, .val (.long (((q1 &&& (1048575 : Int64)) + (q2 &&& (1048575 : Int64))) + (q3 &&& (1048575 : Int64)))), .second] [(.int (lcmpW (own_f1 (q1 &&& (1048575 : Int64)) (q2 &&& (1048575 : Int64)) (q3 &&& (1048575 : Int64))) (((q1 &&& (1048575 : Int64)) + (q2 &&& (1048575 : Int64))) + (q3 &&& (1048575 : Int64)))))])) _
      refine XS.ifNo X1.here hx rfl (hb hby at_57) rfl ((if0 _ _).trans (teq ((lw_eq (own_f1 (q1 &&& (1048575 : Int64)) (q2 &&& (1048575 : Int64)) (q3 &&& (1048575 : Int64))) (((q1 &&& (1048575 : Int64)) + (q2 &&& (1048575 : Int64))) + (q3 &&& (1048575 : Int64)))).mpr (own_le _ _ _ hc49))).2) ?_
      show Steps p.tables e below (T1.setTop (mkF m 60 #[.val (.long q1), .second, .val (.long q2), .second, .val (.long q3), .second, .val (.long (q1 &&& (1048575 : Int64))), .second, .val (.long (q2 &&& (1048575 : Int64))), .second, .val (.long (q3 &&& (1048575 : Int64))), .second, .val (.long (own_f1 (q1 &&& (1048575 : Int64)) (q2 &&& (1048575 : Int64)) (q3 &&& (1048575 : Int64)))), .second, .val (.long (((q1 &&& (1048575 : Int64)) + (q2 &&& (1048575 : Int64))) + (q3 &&& (1048575 : Int64)))), .second] [])) _
      refine XS.iconst X1.here hx rfl (hb hby at_60) ?_
      show Steps p.tables e below (T1.setTop (mkF m 61 #[.val (.long q1), .second, .val (.long q2), .second, .val (.long q3), .second, .val (.long (q1 &&& (1048575 : Int64))), .second, .val (.long (q2 &&& (1048575 : Int64))), .second, .val (.long (q3 &&& (1048575 : Int64))), .second, .val (.long (own_f1 (q1 &&& (1048575 : Int64)) (q2 &&& (1048575 : Int64)) (q3 &&& (1048575 : Int64)))), .second, .val (.long (((q1 &&& (1048575 : Int64)) + (q2 &&& (1048575 : Int64))) + (q3 &&& (1048575 : Int64)))), .second] [(.int (1 : Int32))])) _
      refine XS.goto X1.here hx rfl (pc0 := 61) (pc' := 65) rfl (hb hby at_61) (by decide) (by decide) ?_
      show Steps p.tables e below (T1.setTop (mkF m 65 #[.val (.long q1), .second, .val (.long q2), .second, .val (.long q3), .second, .val (.long (q1 &&& (1048575 : Int64))), .second, .val (.long (q2 &&& (1048575 : Int64))), .second, .val (.long (q3 &&& (1048575 : Int64))), .second, .val (.long (own_f1 (q1 &&& (1048575 : Int64)) (q2 &&& (1048575 : Int64)) (q3 &&& (1048575 : Int64)))), .second, .val (.long (((q1 &&& (1048575 : Int64)) + (q2 &&& (1048575 : Int64))) + (q3 &&& (1048575 : Int64)))), .second] [(.int (1 : Int32))])) _
      exact retN X1 hx (t := .boolean) Bd.returns (by simp) (hb hby at_65) hr
    · show Q0 Z q1 q2 q3 h0 n0 _ T1.heap _
      rw [e1]
      exact ⟨rfl, N1⟩
set_option maxRecDepth 65536 in
set_option maxHeartbeats 40000000 in
theorem comes_1 {Post : Tables → Env → Array Value → State → Outcome → State → Prop} (hpost : ∀ tb e args s v u, (limb_1_1.after args s (.returned v) u = true ∧ limb_1_2.after args s (.returned v) u = true ∧ True) → FrameEnd s (.returned v) u (Jvm.fieldLocs frame_1_writes args s ++ Jvm.arrayLocs frame_1_arrays args s ++ Jvm.staticLocs frame_1_statics s) 0 0 → Post tb e args s (.returned v) u) :
    ArmFor flags0 classFile x code maxLocals ret World_1 tables_1 room_1 Calls_1 rest_1 Pre_1 Post := by
  intro l hfl _ _ p e ha hc hk s m args below hf hA hF happ hP
  obtain ⟨hcalls, hrest, hpre⟩ := hP
  obtain ⟨-, -, -, hnamed, -, -, -, hat⟩ := (Spec.applies_iff hf).mp happ
  obtain ⟨hg, hn⟩ := and_e (Cond.before_iff.mp (show (Jvm.Cond.and given_1 narrow_1).before args s = true from hpre))
  obtain ⟨gc, g0⟩ := and_e hg
  obtain ⟨ga0, g1⟩ := and_e g0
  obtain ⟨ga1, g2⟩ := and_e g1
  obtain ⟨w0, w1, w2, rfl⟩ : ∃ w0 w1 w2 : Value, args = #[w0, w1, w2] := by
    have hs : args.size = 3 := by simpa [Cond.value, given_1] using gc
    obtain ⟨L⟩ := args
    match L, hs with
    | [w0, w1, w2], _ => exact ⟨w0, w1, w2, rfl⟩
  have hw := fun d (hd : d ∈ tables_1) => atoms_spec (ws := Jvm.Cond.code x code maxLocals ret :: tables_1) hat d (List.mem_cons_of_mem _ hd)
  have hfit : Fit s := fun {y c} hc i hi => by
    obtain ⟨ha, rfl⟩ := Array.getElem?_eq_some_iff.mp hc
    have q := List.all_eq_true.mp ((Array.all_eq_true_iff_forall_mem.mp hF) _ (Array.getElem_mem ha)) i (List.mem_range.mpr hi)
    simpa [Array.getElem?_eq_getElem hi] using q
  obtain ⟨i0, ei0⟩ := isL_v ga0
  obtain rfl : w0 = (.long i0) := Option.some.inj ei0
  obtain ⟨i1, ei1⟩ := isL_v ga1
  obtain rfl : w1 = (.long i1) := Option.some.inj ei1
  obtain ⟨i2, ei2⟩ := isL_v g2
  obtain rfl : w2 = (.long i2) := Option.some.inj ei2
  obtain ⟨n, o, h1, h2, h3, _, L, rfl, ⟨rfl, N⟩, hq⟩ := rm0 l s _ hw tables_1 i0 i1 i2 s.heap s.heap.size (Nat.le_refl _)  p e ha hc hk s m _ below hf ((Spec.applies_iff_loose hf).mp happ).1 ⟨rfl, State.Warmed39.refl s, rfl⟩ trivial
  refine ⟨n, _, h1, h2, h3, hpost _ _ _ _ _ _ ⟨Cond.after_iff.mpr rfl, Cond.after_iff.mpr (eq_i res_at (Term.int_eval (1)) rfl), trivial⟩ ⟨hq.1, hq.2.1, (hq.2.2.sift fun y hy => Or.inr (N y hy)).mono (by decide) (by decide)⟩⟩
theorem main_1_1 : Claimed_1_1 := comes_1 fun _ _ _ _ _ _ h hF => ⟨h.1, hF⟩
theorem main_1_2 : Claimed_1_2 := comes_1 fun _ _ _ _ _ _ h hF => ⟨h.2.1, hF⟩
end Jvm.Pilot.@@N@@
namespace Jvm.Pilot.@@N@@
open Jvm Jvm.ClassFile Sem Op Lib Jvm.Free Jvm.Stand Jvm.Pilot.@@N@@.Jvm.D
/-! MADE BY PROGRAM (witnessworld.py) out of the Statement's table words and the real class files: 10 classes; the members and pool entries that the words name. The judged class is class 1, her method 1. -/
namespace start1
open Jvm.ClassFile
def u (s : String) : CpInfo := .utf8 (stringToUtf16 s)
/-- a pool by its gaps: so many unusable entries, then the entry; so many at the end -/
def gap : Nat → List CpInfo → List CpInfo
  | 0, r => r
  | n + 1, r => .unusable :: gap n r
def poolList (es : List (Nat × CpInfo)) (last : Nat) : List CpInfo := es.foldr (fun e r => gap e.1 (e.2 :: r)) (gap last [])
def pool (es : List (Nat × CpInfo)) (last : Nat) : Array CpInfo := ⟨poolList es last⟩
def fileOf (pool : Array CpInfo) (this : Nat) (attrs : Array Attribute := #[]) (ms : Array MethodInfo := #[]) (fl : Nat := 33) (sup : Nat := 0) (ifs : Array Nat := #[]) (fds : Array FieldInfo := #[]) : ClassFile where
  minorVersion := 0
  majorVersion := 65
  constantPool := pool
  accessFlags := fl
  thisClass := this
  superClass := sup
  interfaces := ifs
  fields := fds
  methods := ms
  attributes := attrs
def plain (name : String) (sup : Option ClassId) : Class where
  name := name
  kind := .ordinary
  loader := none
  accessFlags := 33
  super := sup
  interfaces := #[]
  cf := none
  fields := #[]
  methods := #[]
  instanceTypes := #[]
  staticTypes := #[]
  resolved := #[]
  callSites := []
  init := .initialized
  statics := none
  mirror := none

def pool0 : Array CpInfo := pool [(5, u "<init>"), (0, u "()V"), (1, .class_ 10), (1, u "java/lang/Object")] 113

def k0m0 : Method := { name := "<init>", desc := "()V", sig := { parameters := [], returnType := none }, accessFlags := 1, code := none }
/-- java/lang/Object -/
def k0 : Class := { plain "java/lang/Object" none with
  accessFlags := 33
  interfaces := #[]
  cf := some (fileOf pool0 8 #[] #[{ accessFlags := 1, nameIndex := 5, descriptorIndex := 6, attributes := #[] }] 33 0 #[] #[])
  fields := #[]
  methods := #[k0m0]
  instanceTypes := #[]
  staticTypes := #[]
  resolved := Array.replicate 124 none
  statics := none }

def pool1 : Array CpInfo := pool [(2, .class_ 4), (1, u "java/lang/Object"), (0, u "<init>"), (0, u "()V"), (0, .long 1048575), (1, .methodref 10 11), (0, .class_ 12), (0, .nameAndType 13 14), (0, u "com/example/alternant/alternant/smv/Expressions"), (0, u "plus"), (0, u "(JJJ)J"), (0, .long 1000000), (1, .long 1000001), (1, .class_ 20), (0, u "com/example/alternant/alternant/smv/ExpressionsPlusPinLaw"), (2, u "law"), (0, u "(JJJ)Z")] 3

def k1m0 : Method := { name := "<init>", desc := "()V", sig := { parameters := [], returnType := none }, accessFlags := 2, code := none }
def k1c1 : Code := { maxStack := 6, maxLocals := 16, code := code, exceptionTable := #[], attributes := #[] }
def k1m1 : Method := { name := "law", desc := "(JJJ)Z", sig := { parameters := [.long, .long, .long], returnType := some .boolean }, accessFlags := 9, code := some k1c1 }
/-- com/example/alternant/alternant/smv/ExpressionsPlusPinLaw -/
def k1 : Class := { plain "com/example/alternant/alternant/smv/ExpressionsPlusPinLaw" (some 0) with
  accessFlags := 49
  interfaces := #[]
  cf := some (fileOf pool1 19 #[] #[{ accessFlags := 2, nameIndex := 5, descriptorIndex := 6, attributes := #[] }, { accessFlags := 9, nameIndex := 23, descriptorIndex := 24, attributes := #[] }] 49 2 #[] #[])
  fields := #[]
  methods := #[k1m0, k1m1]
  instanceTypes := #[]
  staticTypes := #[]
  resolved := Array.replicate 28 none
  statics := none }

def pool2 : Array CpInfo := pool [(2, .class_ 4), (1, u "java/lang/Object"), (0, u "<init>"), (0, u "()V"), (4, .class_ 13), (1, u "com/example/alternant/alternant/smv/Expressions"), (0, u "defines"), (0, u "Ljava/util/Map;"), (38, .class_ 55), (0, u "com/example/alternant/alternant/smv/Expressions$Definition"), (26, .class_ 83), (0, u "com/example/alternant/alternant/smv/Expressions$Read"), (63, .class_ 149), (1, u "com/example/alternant/alternant/smv/Expressions$Scope"), (52, .class_ 204), (1, u "com/example/alternant/alternant/smv/Expressions$Kind"), (3, .class_ 210), (1, u "com/example/alternant/alternant/smv/Expressions$Term"), (147, u "plus"), (0, u "(JJJ)J"), (16, u "min"), (46, .class_ 425), (1, u "com/example/alternant/alternant/smv/Expressions$1"), (114, .class_ 542), (1, u "com/example/alternant/alternant/smv/Expressions$Leaf"), (52, .long 1000001), (1, .methodref 598 599), (0, .class_ 600), (0, .nameAndType 376 601), (0, u "java/lang/Math"), (0, u "(JJ)J"), (0, u "MAX_SIZE"), (0, u "J")] 100

def k2m0 : Method := { name := "<init>", desc := "()V", sig := { parameters := [], returnType := none }, accessFlags := 0, code := none }
def k2c1 : Code := { maxStack := 6, maxLocals := 6, code := prog_266_method_29_code, exceptionTable := #[], attributes := #[] }
def k2m1 : Method := { name := "plus", desc := "(JJJ)J", sig := { parameters := [.long, .long, .long], returnType := some .long }, accessFlags := 8, code := some k2c1 }
/-- com/example/alternant/alternant/smv/Expressions -/
def k2 : Class := { plain "com/example/alternant/alternant/smv/Expressions" (some 0) with
  accessFlags := 48
  interfaces := #[]
  cf := some (fileOf pool2 11 #[.nestMembers #[423, 540, 82, 54, 147, 208, 202]] #[{ accessFlags := 0, nameIndex := 5, descriptorIndex := 6, attributes := #[] }, { accessFlags := 8, nameIndex := 358, descriptorIndex := 359, attributes := #[] }] 48 2 #[] #[{ accessFlags := 24, nameIndex := 602, descriptorIndex := 603, attributes := #[] }, { accessFlags := 18, nameIndex := 14, descriptorIndex := 15, attributes := #[] }])
  fields := #[{ name := "MAX_SIZE", type := .long, accessFlags := 24, slot := 0, constantValue := 0 }, { name := "defines", type := (.object "java/util/Map"), accessFlags := 18, slot := 0, constantValue := 0 }]
  methods := #[k2m0, k2m1]
  instanceTypes := #[(.object "java/util/Map")]
  staticTypes := #[.long]
  resolved := Array.replicate 704 none
  statics := none }

def pool3 : Array CpInfo := pool [(1, .class_ 2), (0, u "java/lang/Math"), (1, .class_ 6), (1, u "java/lang/Object"), (0, u "<init>"), (0, u "()V"), (89, .class_ 100), (1, u "java/lang/Math$RandomNumberGeneratorHolder"), (20, u "(JJ)J"), (50, u "negativeZeroFloatBits"), (0, u "J"), (2, u "negativeZeroDoubleBits"), (24, u "min"), (43, u "$assertionsDisabled"), (0, u "Z"), (91, u "twoToTheDoubleScaleDown"), (0, u "D"), (4, u "twoToTheDoubleScaleUp"), (9, u "E"), (3, u "PI"), (2, u "TAU"), (2, u "DEGREES_TO_RADIANS"), (0, u "RADIANS_TO_DEGREES")] 94

def k3m0 : Method := { name := "<init>", desc := "()V", sig := { parameters := [], returnType := none }, accessFlags := 2, code := none }
def k3c1 : Code := { maxStack := 4, maxLocals := 4, code := jdk_29_method_70_code, exceptionTable := #[], attributes := #[] }
def k3m1 : Method := { name := "min", desc := "(JJ)J", sig := { parameters := [.long, .long], returnType := some .long }, accessFlags := 9, code := some k3c1 }
/-- java/lang/Math -/
def k3 : Class := { plain "java/lang/Math" (some 0) with
  accessFlags := 49
  interfaces := #[]
  cf := some (fileOf pool3 1 #[.nestMembers #[98]] #[{ accessFlags := 2, nameIndex := 7, descriptorIndex := 8, attributes := #[] }, { accessFlags := 9, nameIndex := 201, descriptorIndex := 121, attributes := #[] }] 49 4 #[] #[{ accessFlags := 25, nameIndex := 354, descriptorIndex := 339, attributes := #[] }, { accessFlags := 25, nameIndex := 358, descriptorIndex := 339, attributes := #[] }, { accessFlags := 25, nameIndex := 361, descriptorIndex := 339, attributes := #[] }, { accessFlags := 26, nameIndex := 364, descriptorIndex := 339, attributes := #[] }, { accessFlags := 26, nameIndex := 365, descriptorIndex := 339, attributes := #[] }, { accessFlags := 26, nameIndex := 172, descriptorIndex := 173, attributes := #[] }, { accessFlags := 26, nameIndex := 176, descriptorIndex := 173, attributes := #[] }, { accessFlags := 8, nameIndex := 344, descriptorIndex := 339, attributes := #[] }, { accessFlags := 8, nameIndex := 338, descriptorIndex := 339, attributes := #[] }, { accessFlags := 4120, nameIndex := 245, descriptorIndex := 246, attributes := #[] }])
  fields := #[{ name := "E", type := .double, accessFlags := 25, slot := 0, constantValue := 0 }, { name := "PI", type := .double, accessFlags := 25, slot := 1, constantValue := 0 }, { name := "TAU", type := .double, accessFlags := 25, slot := 2, constantValue := 0 }, { name := "DEGREES_TO_RADIANS", type := .double, accessFlags := 26, slot := 3, constantValue := 0 }, { name := "RADIANS_TO_DEGREES", type := .double, accessFlags := 26, slot := 4, constantValue := 0 }, { name := "negativeZeroFloatBits", type := .long, accessFlags := 26, slot := 5, constantValue := 0 }, { name := "negativeZeroDoubleBits", type := .long, accessFlags := 26, slot := 6, constantValue := 0 }, { name := "twoToTheDoubleScaleUp", type := .double, accessFlags := 8, slot := 7, constantValue := 0 }, { name := "twoToTheDoubleScaleDown", type := .double, accessFlags := 8, slot := 8, constantValue := 0 }, { name := "$assertionsDisabled", type := .boolean, accessFlags := 4120, slot := 9, constantValue := 0 }]
  methods := #[k3m0, k3m1]
  instanceTypes := #[]
  staticTypes := #[.double, .double, .double, .double, .double, .long, .long, .double, .double, .boolean]
  resolved := Array.replicate 460 none
  statics := none }

def pool4 : Array CpInfo := pool [(1, u "java/lang/Cloneable"), (0, .class_ 1), (0, u "java/lang/Object"), (0, .class_ 3)] 3

/-- java/lang/Cloneable -/
def k4 : Class := { plain "java/lang/Cloneable" (some 0) with
  accessFlags := 1537
  interfaces := #[]
  cf := some (fileOf pool4 2 #[] #[] 1537 4 #[] #[])
  fields := #[]
  methods := #[]
  instanceTypes := #[]
  staticTypes := #[]
  resolved := Array.replicate 8 none
  statics := none }

def pool5 : Array CpInfo := pool [(1, u "java/io/Serializable"), (0, .class_ 1), (0, u "java/lang/Object"), (0, .class_ 3)] 3

/-- java/io/Serializable -/
def k5 : Class := { plain "java/io/Serializable" (some 0) with
  accessFlags := 1537
  interfaces := #[]
  cf := some (fileOf pool5 2 #[] #[] 1537 4 #[] #[])
  fields := #[]
  methods := #[]
  instanceTypes := #[]
  staticTypes := #[]
  resolved := Array.replicate 8 none
  statics := none }

/-- the primitive byte -/
def k6 : Class := { plain "byte" none with kind := .primitive 'B', accessFlags := 0x411 }
/-- [B -/
def k7 : Class := { plain "[B" (some 0) with kind := .array 6 .byte, interfaces := #[4, 5], accessFlags := 1041 }

/-- the primitive int -/
def k8 : Class := { plain "int" none with kind := .primitive 'I', accessFlags := 0x411 }
/-- [I -/
def k9 : Class := { plain "[I" (some 0) with kind := .array 8 .int, interfaces := #[4, 5], accessFlags := 1041 }

def heap : Heap := #[]
def classes : Array Class := #[k0, k1, k2, k3, k4, k5, k6, k7, k8, k9]
def interned : List (Array UInt16 × Addr) := []
def slotsUsed : Nat := 0
def theMethod : MethodId := ⟨1, 1⟩
def args0 : Array Value := #[.long 5, .long 300, .long 7]
def aboutOver (below : List Frame) : State where
  vm := { classes := classes, interned := interned.toArray }
  heap := heap
  slotsUsed := slotsUsed
  threads := #[{ frames := .invoking theMethod args0 :: below }]
def below0 : List Frame := [.native { method := ⟨0, 0⟩, args := #[] }]
def about1 : State := aboutOver below0
def p0 : Program := .bare "" "" ""
def e0 : Env := launch0.env 0 0 0
theorem w_frames : about1.frames = Frame.invoking theMethod args0 :: below0 := rfl
set_option maxRecDepth 65536 in
theorem w_args : argsFit about1.vm theMethod args0 = true := by decide +kernel
set_option maxRecDepth 65536 in
theorem w_heap : heapFits about1 = true := by decide +kernel
set_option maxRecDepth 65536 in
theorem w_runnable : about1.curStatus? = some .runnable := by decide +kernel
set_option maxRecDepth 65536 in
theorem w_alone : about1.alone = true := by decide +kernel
set_option maxRecDepth 65536 in
theorem w_named : about1.methodNamed? x = some theMethod := by decide +kernel
set_option maxRecDepth 65536 in
theorem w_hears : about1.hears theMethod below0 = true := by decide +kernel
set_option maxRecDepth 65536 in
theorem w_ripe : about1.ripe theMethod args0 below0 = true := by decide +kernel
theorem w_running : about1.status = .running := rfl
set_option maxRecDepth 65536 in
theorem w_room : about1.hasRoom e0.platform room_1 = true :=
  launch0.hasRoom_least _ room_1 (by decide +kernel) (by decide +kernel) (by decide +kernel) (by decide +kernel) (by decide +kernel) (by decide +kernel)
theorem allAtoms_all (ts : List Jvm.Cond) (a : Array Jvm.Value) (st : Jvm.State) : (allAtoms ts).before a st = ts.all (fun c => c.before a st) := by
  induction ts with
  | nil => rfl
  | cons c t ih =>
    show (Jvm.Cond.and c (allAtoms t)).before a st = _
    rw [Jvm.Cond.before_and, ih, List.all_cons]
def words1 : List Jvm.Cond := Jvm.Cond.code x code maxLocals ret :: tables_1
/-- a 'code' word, met by the world's own term for the bytes: nothing is compared byte by byte -/
theorem code_word {y : MethodName} {bytes : ByteArray} {mx : Nat} {rt : Option FieldType} {a : Array Value} {s : State} {m : MethodId} {meth : Method} {c : Code} (h1 : s.methodNamed? y = some m) (h2 : s.vm.method? m = some meth) (h3 : meth.code = some c) (h4 : c.code = bytes)
    (h5 : (c.maxLocals == mx && c.exceptionTable.isEmpty && decide (c.maxStack ≤ mostOperands) && decide (meth.sig.returnType = rt) && !meth.locks && decide (parseMethodDescriptor y.desc = some meth.sig)) = true) : (Jvm.Cond.code y bytes mx rt).before a s = true := by
  simp only [Bool.and_eq_true, beq_iff_eq, Bool.not_eq_true', decide_eq_true_eq] at h5
  obtain ⟨⟨⟨⟨⟨g1, g2⟩, g3⟩, g4⟩, g5⟩, g6⟩ := h5
  simp [Cond.before, Cond.holds, Cond.value, h1, h2, h3, h4, g1, g2, g3, g4, g5, g6]
def isCode : Jvm.Cond → Bool
  | .code _ _ _ _ => true
  | _ => false
theorem all_split {L : List Jvm.Cond} {P : Jvm.Cond → Bool} (h1 : L.all (fun c => isCode c || P c) = true) (h2 : ∀ c ∈ L.filter isCode, P c = true) : L.all P = true := by
  refine List.all_eq_true.mpr fun c hc => ?_
  have h := List.all_eq_true.mp h1 c hc
  rcases Bool.eq_false_or_eq_true (isCode c) with hi | hi
  · exact h2 c (List.mem_filter.mpr ⟨hc, hi⟩)
  · simpa [hi] using h
set_option maxRecDepth 65536 in
theorem w_c0 : (Jvm.Cond.code x code maxLocals ret).before args0 about1 = true := code_word (m := ⟨1, 1⟩) (meth := k1m1) (c := k1c1) (by decide +kernel) rfl rfl rfl (by decide +kernel)
set_option maxRecDepth 65536 in
theorem w_c1 : (Jvm.Cond.code ({ cls := "com/example/alternant/alternant/smv/Expressions", name := "plus", desc := "(JJJ)J" } : Jvm.MethodName) prog_266_method_29_code (6 : Nat) (Option.some Jvm.ClassFile.FieldType.long)).before args0 about1 = true := code_word (m := ⟨2, 1⟩) (meth := k2m1) (c := k2c1) (by decide +kernel) rfl rfl rfl (by decide +kernel)
set_option maxRecDepth 65536 in
theorem w_c2 : (Jvm.Cond.code ({ cls := "java/lang/Math", name := "min", desc := "(JJ)J" } : Jvm.MethodName) jdk_29_method_70_code (4 : Nat) (Option.some Jvm.ClassFile.FieldType.long)).before args0 about1 = true := code_word (m := ⟨3, 1⟩) (meth := k3m1) (c := k3c1) (by decide +kernel) rfl rfl rfl (by decide +kernel)
def codes1 : List Jvm.Cond := [Jvm.Cond.code x code maxLocals ret, Jvm.Cond.code ({ cls := "com/example/alternant/alternant/smv/Expressions", name := "plus", desc := "(JJJ)J" } : Jvm.MethodName) prog_266_method_29_code (6 : Nat) (Option.some Jvm.ClassFile.FieldType.long), Jvm.Cond.code ({ cls := "java/lang/Math", name := "min", desc := "(JJ)J" } : Jvm.MethodName) jdk_29_method_70_code (4 : Nat) (Option.some Jvm.ClassFile.FieldType.long)]
set_option maxRecDepth 65536 in
theorem codes_eq : words1.filter isCode = codes1 := rfl
theorem w_codes : ∀ c ∈ words1.filter isCode, c.before args0 about1 = true := by
  rw [codes_eq]
  intro c hc
  simp only [codes1, List.mem_cons, List.not_mem_nil, or_false] at hc
  rcases hc with rfl | rfl | rfl
  · exact w_c0
  · exact w_c1
  · exact w_c2
set_option maxRecDepth 65536 in
theorem w_t1 : words1.all (fun c => isCode c || c.before args0 about1) = true := by decide +kernel
theorem w_tables : (allAtoms (Jvm.Cond.code x code maxLocals ret :: tables_1)).before args0 about1 = true := by
  rw [allAtoms_all]
  show words1.all (fun c => c.before args0 about1) = true
  refine all_split ?_ w_codes
  rw [w_t1]
set_option maxRecDepth 65536 in
theorem w_case : (Jvm.Cond.and given_1 narrow_1).before args0 about1 = true := by decide +kernel
theorem w_applies : (headSpec (Jvm.Cond.code x code maxLocals ret :: tables_1) room_1).applies x e0.platform about1 = true :=
  (Spec.applies_iff w_frames).mpr ⟨w_running, w_runnable, w_alone, w_named, w_hears, w_ripe, w_room, w_tables⟩
theorem atStart : AtStart classFile x code maxLocals ret World_1 tables_1 room_1 Calls_1 rest_1 Pre_1 launch0 p0 e0 about1 theMethod args0 below0 :=
  ⟨lists_1, trivial, launch0.admits_env _ _ _, launch0.least_env, fairChoices_fair.cas, fairChoices_fair.clock, w_frames, w_args, w_heap, w_applies, trivial, trivial, w_case⟩
end start1
theorem witness_1 : WitnessClaimed_1 := ⟨start1.p0, start1.e0, start1.about1, start1.theMethod, start1.args0, start1.below0, start1.atStart⟩
end Jvm.Pilot.@@N@@
