import JvmDerived
import JvmDerived.Pilot.@@N@@Statement
import JvmDerived.Pilot.@@N@@Code
set_option linter.unusedVariables false
set_option linter.unusedSimpArgs false
namespace Jvm.RoadKit
open Sem ClassFile Op Lib Jvm.Stand Jvm.Free Jvm.LawKit
section New
variable {p : Program} {l : Launch} {e : Env} {R : Room} {s : State} {m : MethodId} {args : Array Value} {below : List Frame} {meth : Method} {c : Code} {T : State} {locs : List Loc} {cells slots : Nat}
theorem retI (X : Stand p l e R s m args below meth c T locs cells slots) (hx : p.tables.exec = Jvm.exec) {pc : Nat} {Ls : Array Slot} {z : Int32} {rest : List Value} (hret : meth.sig.returnType = some .int) (hd : decode c.code pc = .ok (.ireturn, 1)) {fs : List Frame}
    (hl : ∀ (f : JFrame) (acts : List Action), f.method = m → f.locked = none → f.entered = [] → (doReturn e (T.setTop f) acts (some (.int z))).1 = T.setFrames fs) : Steps p.tables e below (T.setTop (mkF m pc Ls (.int z :: rest))) (T.setFrames fs) := by
  have hm' : T.vm.method? m = some meth := X.method'
  have hn : narrow .int (.int z) = .int z := rfl
  show Steps p.tables e below (T.setTop { method := m, pc := pc, locals := Ls, stack := _ :: rest, locked := none }) _
  jvm_step X.here [X.here.top, hx, hd, hm', hret, hn]
  first | (intro acts; rw [hl _ acts rfl rfl rfl]) | rw [hl _ _ rfl rfl rfl]
  exact Steps.refl _
end New
end Jvm.RoadKit
namespace Jvm.Pilot.@@N@@
open Jvm Jvm.ClassFile Sem Op Lib Jvm.Free Jvm.Stand Jvm.LawKit Jvm.RoadKit Bundle Jvm.Pilot.@@N@@.Jvm.D
theorem own_rem (x y : Int32) : x - (x / y) * y = x % y := by
  refine Int32.toInt_inj.mp ?_
  have lo := (x % y).le_toInt
  have hi := (x % y).toInt_lt
  have t : (x % y).toInt = x.toInt - x.toInt.tdiv y.toInt * y.toInt := by
    rw [Int32.toInt_mod, Int.tmod_def, Int.mul_comm]
  have u : (x - (x / y) * y).toInt = (x.toInt - x.toInt.tdiv y.toInt * y.toInt).bmod (2 ^ 32) := by
    simp only [Int32.toInt_sub, Int32.toInt_mul, Int32.toInt_div, Int.bmod_mul_bmod, Int.sub_bmod_bmod]
  rw [u, ← t, Int.bmod_def]
  omega
theorem d1_0 : decode method_3_code 0 = .ok (.iload_n 0, 1) := by decide +kernel
theorem d1_1 : decode method_3_code 1 = .ok (.iload_n 1, 1) := by decide +kernel
theorem d1_2 : decode method_3_code 2 = .ok (.iushr, 1) := by decide +kernel
theorem d1_3 : decode method_3_code 3 = .ok (.iconst 1, 1) := by decide +kernel
theorem d1_4 : decode method_3_code 4 = .ok (.iand, 1) := by decide +kernel
theorem d1_5 : decode method_3_code 5 = .ok (.ifCond .eq 7, 3) := by decide +kernel
theorem d1_8 : decode method_3_code 8 = .ok (.lconst 0, 1) := by decide +kernel
theorem d1_9 : decode method_3_code 9 = .ok (.goto 8, 3) := by decide +kernel
theorem d1_12 : decode method_3_code 12 = .ok (.lload_n 2, 1) := by decide +kernel
theorem d1_13 : decode method_3_code 13 = .ok (.ldc2_w 22, 3) := by decide +kernel
theorem d1_16 : decode method_3_code 16 = .ok (.land, 1) := by decide +kernel
theorem d1_17 : decode method_3_code 17 = .ok (.lreturn, 1) := by decide +kernel
theorem pn1 : plainName "com/example/vestline/vestline/ProRataNoWeightPinLaw" = true := by first | (simp [plainName, overriddenIn]; done) | decide +kernel
theorem ef1 (m : MethodId) (p1 : Int32) (p2 : Int32) (q3 : Int64) : entryFrame m #[(.int p1), (.int p2), (.long q3)] 4 = mkF m 0 #[.val (.int p1), .val (.int p2), .val (.long q3), .second] [] := by first | (simp [entryFrame, mkF, argsToLocals, Value.category]; done) | rfl
def own_pick (p1 : Int32) (p2 : Int32) (q3 : Int64) : Int64 := (if (((p1.toUInt32 >>> (p2 &&& 31).toUInt32).toInt32) &&& (1 : Int32)) = (0 : Int32) then (q3 &&& (9223372036854775807 : Int64)) else (0 : Int64))
def Q1 (Z : State) (p1 : Int32) (p2 : Int32) (q3 : Int64) (h0 : Heap) (n0 : Nat) (v : Option Value) (h : Heap) (L : List Loc) : Prop := v = some (.long (own_pick p1 p2 q3)) ∧ Fr n0 L ∧ h = h0
set_option maxRecDepth 65536 in
set_option maxHeartbeats 40000000 in
theorem rm1 (l : Launch) (Z : State) (a0 : Array Value) (hw : ∀ d ∈ tables_1, d.before a0 Z = true) (ws : List Jvm.Cond) (p1 : Int32) (p2 : Int32) (q3 : Int64) (h0 : Heap) (n0 : Nat) (Z0 : n0 ≤ h0.size) :
    MetFree l (⟨"com/example/vestline/vestline/ProRataNoWeightPinLaw", "pick", "(IIJ)J"⟩ : MethodName) (head1 (Jvm.Cond.code (⟨"com/example/vestline/vestline/ProRataNoWeightPinLaw", "pick", "(IIJ)J"⟩ : MethodName) method_3_code 4 (some .long) :: ws) ({ frames := 0, cells := 0, slots := 0, locals := 0 } : Room)) (fun a U => a = #[(.int p1), (.int p2), (.long q3)] ∧ Z.Warmed39 U.vm ∧ U.heap = h0) (fun _ _ _ _ _ => True) (fun _ U o U' => ∃ v L, o = .returned v ∧ Q1 Z p1 p2 q3 h0 n0 v U'.heap L ∧ FrameEnd U o U' L ({ frames := 0, cells := 0, slots := 0, locals := 0 } : Room).cells ({ frames := 0, cells := 0, slots := 0, locals := 0 } : Room).slots) := by
  refine MetFree.of_bodySF (plainFor_of_name pn1) hisR ?_
  intro p e s m args below meth c s₁ Bd hml0 hP hK
  obtain ⟨rfl, hZ, hh⟩ := hP
  have hx := Bd.exec
  have hby := Bd.bytes
  have hml : c.maxLocals = 4 := hml0
  have hown : s.vm.findClass "com/example/vestline/vestline/ProRataNoWeightPinLaw" = some m.cls := findClass_of_methodNamed Bd.named
  have hnm := (name_of_methodNamed Bd.named Bd.method).1
  have X0 : Stand p l e ({ frames := 0, cells := 0, slots := 0, locals := 0 } : Room) s m #[(.int p1), (.int p2), (.long q3)] below meth c s₁ [] 0 0 := Stand.of_body Bd
  have e0 : s₁.heap = h0 := by rw [← hh, Bd.state]; rfl
  have N0 := Fr.nil n0
  have pre0 : ∀ t, Steps p.tables e below (s₁.setTop (mkF m 0 #[.val (.int p1), .val (.int p2), .val (.long q3), .second] [])) t → Steps p.tables e below (s₁.setTop (entryFrame m #[(.int p1), (.int p2), (.long q3)] 4)) t := fun t k => castTop (ef1 m p1 p2 q3) k
  have c1 : ∀ t, Steps p.tables e below (s₁.setTop (mkF m 5 #[.val (.int p1), .val (.int p2), .val (.long q3), .second] [(.int (((p1.toUInt32 >>> (p2 &&& 31).toUInt32).toInt32) &&& (1 : Int32)))])) t → Steps p.tables e below (s₁.setTop (entryFrame m #[(.int p1), (.int p2), (.long q3)] 4)) t := fun t kt => by
    refine pre0 _ ?_
    show Steps p.tables e below (s₁.setTop (mkF m 0 #[.val (.int p1), .val (.int p2), .val (.long q3), .second] [])) _
    refine XS.iloadN X0.here hx rfl (hb hby d1_0) rfl ?_
    show Steps p.tables e below (s₁.setTop (mkF m 1 #[.val (.int p1), .val (.int p2), .val (.long q3), .second] [(.int p1)])) _
    refine XS.iloadN X0.here hx rfl (hb hby d1_1) rfl ?_
    show Steps p.tables e below (s₁.setTop (mkF m 2 #[.val (.int p1), .val (.int p2), .val (.long q3), .second] [(.int p2), (.int p1)])) _
    refine XS.iushr X0.here hx rfl (hb hby d1_2) rfl ?_
    show Steps p.tables e below (s₁.setTop (mkF m 3 #[.val (.int p1), .val (.int p2), .val (.long q3), .second] [(.int ((p1.toUInt32 >>> (p2 &&& 31).toUInt32).toInt32))])) _
    refine XS.iconst X0.here hx rfl (hb hby d1_3) ?_
    show Steps p.tables e below (s₁.setTop (mkF m 4 #[.val (.int p1), .val (.int p2), .val (.long q3), .second] [(.int (1 : Int32)), (.int ((p1.toUInt32 >>> (p2 &&& 31).toUInt32).toInt32))])) _
    refine XS.iand X0.here hx rfl (hb hby d1_4) rfl ?_
    exact kt
  by_cases hc5 : (((p1.toUInt32 >>> (p2 &&& 31).toUInt32).toInt32) &&& (1 : Int32)) = (0 : Int32)
  · obtain ⟨fs, hr, hrun, hended, hW, hsame⟩ := X0.leave (v := some (.long (q3 &&& (9223372036854775807 : Int64)))) (fun h => by rw [Bd.returns] at h; cases h)
    refine ⟨_, _, c1 _ ?_, hrun, hended, _, _, rfl, ?_, ⟨_, rfl⟩, hW, hsame.mono (by decide) (by decide)⟩
    · show Steps p.tables e below (s₁.setTop (mkF m 5 #[.val (.int p1), .val (.int p2), .val (.long q3), .second] [(.int (((p1.toUInt32 >>> (p2 &&& 31).toUInt32).toInt32) &&& (1 : Int32)))])) _
      refine XS.ifYes X0.here hx rfl (pc0 := 5) (pc' := 12) rfl (hb hby d1_5) rfl ((if0 _ _).trans (teq hc5).1) (by decide) (by decide) ?_
      show Steps p.tables e below (s₁.setTop (mkF m 12 #[.val (.int p1), .val (.int p2), .val (.long q3), .second] [])) _
      refine XS.lloadN X0.here hx rfl (hb hby d1_12) rfl ?_
      show Steps p.tables e below (s₁.setTop (mkF m 13 #[.val (.int p1), .val (.int p2), .val (.long q3), .second] [(.long q3)])) _
      refine X0.ldc2Long hx hown (mvT hZ (hw _ (List.mem_of_getElem? (i := 5) rfl))) (g := (mkF m 13 #[.val (.int p1), .val (.int p2), .val (.long q3), .second] [(.long q3)])) rfl (hb hby d1_13) _ ?_
      show Steps p.tables e below (s₁.setTop (mkF m 16 #[.val (.int p1), .val (.int p2), .val (.long q3), .second] [(.long (9223372036854775807 : Int64)), (.long q3)])) _
      refine XS.land X0.here hx rfl (hb hby d1_16) rfl ?_
      show Steps p.tables e below (s₁.setTop (mkF m 17 #[.val (.int p1), .val (.int p2), .val (.long q3), .second] [(.long (q3 &&& (9223372036854775807 : Int64)))])) _
      jvm_step X0.here [X0.here.top, hx, (hb hby d1_17), X0.method', Bd.returns, narrow]
      first | (intro acts; rw [hr _ acts rfl rfl rfl]) | rw [hr _ _ rfl rfl rfl]
      exact Steps.refl _
    · show Q1 Z p1 p2 q3 h0 n0 _ s₁.heap _
      rw [e0]
      have hv : (own_pick p1 p2 q3) = (q3 &&& (9223372036854775807 : Int64)) := by unfold own_pick; rw [if_pos hc5]
      exact ⟨by rw [hv], N0, rfl⟩
  · obtain ⟨fs, hr, hrun, hended, hW, hsame⟩ := X0.leave (v := some (.long (0 : Int64))) (fun h => by rw [Bd.returns] at h; cases h)
    refine ⟨_, _, c1 _ ?_, hrun, hended, _, _, rfl, ?_, ⟨_, rfl⟩, hW, hsame.mono (by decide) (by decide)⟩
    · show Steps p.tables e below (s₁.setTop (mkF m 5 #[.val (.int p1), .val (.int p2), .val (.long q3), .second] [(.int (((p1.toUInt32 >>> (p2 &&& 31).toUInt32).toInt32) &&& (1 : Int32)))])) _
      refine XS.ifNo X0.here hx rfl (hb hby d1_5) rfl ((if0 _ _).trans (feq hc5).1) ?_
      show Steps p.tables e below (s₁.setTop (mkF m 8 #[.val (.int p1), .val (.int p2), .val (.long q3), .second] [])) _
      refine XS.lconst X0.here hx rfl (hb hby d1_8) ?_
      show Steps p.tables e below (s₁.setTop (mkF m 9 #[.val (.int p1), .val (.int p2), .val (.long q3), .second] [(.long (0 : Int64))])) _
      refine XS.goto X0.here hx rfl (pc0 := 9) (pc' := 17) rfl (hb hby d1_9) (by decide) (by decide) ?_
      show Steps p.tables e below (s₁.setTop (mkF m 17 #[.val (.int p1), .val (.int p2), .val (.long q3), .second] [(.long (0 : Int64))])) _
      jvm_step X0.here [X0.here.top, hx, (hb hby d1_17), X0.method', Bd.returns, narrow]
      first | (intro acts; rw [hr _ acts rfl rfl rfl]) | rw [hr _ _ rfl rfl rfl]
      exact Steps.refl _
    · show Q1 Z p1 p2 q3 h0 n0 _ s₁.heap _
      rw [e0]
      have hv : (own_pick p1 p2 q3) = (0 : Int64) := by unfold own_pick; rw [if_neg hc5]
      exact ⟨by rw [hv], N0, rfl⟩
theorem d2_0 : decode prog_53_method_3_code 0 = .ok (.iconst 1, 1) := by decide +kernel
theorem d2_1 : decode prog_53_method_3_code 1 = .ok (.istore_n 1, 1) := by decide +kernel
theorem d2_2 : decode prog_53_method_3_code 2 = .ok (.iconst 0, 1) := by decide +kernel
theorem d2_3 : decode prog_53_method_3_code 3 = .ok (.istore_n 2, 1) := by decide +kernel
theorem d2_4 : decode prog_53_method_3_code 4 = .ok (.iload_n 2, 1) := by decide +kernel
theorem d2_5 : decode prog_53_method_3_code 5 = .ok (.aload_n 0, 1) := by decide +kernel
theorem d2_6 : decode prog_53_method_3_code 6 = .ok (.arraylength, 1) := by decide +kernel
theorem d2_7 : decode prog_53_method_3_code 7 = .ok (.if_icmp .ge 27, 3) := by decide +kernel
theorem d2_34 : decode prog_53_method_3_code 34 = .ok (.iload_n 1, 1) := by decide +kernel
theorem d2_35 : decode prog_53_method_3_code 35 = .ok (.ireturn, 1) := by decide +kernel
theorem pn2n0 : plainName "com/example/vestline/vestline/ProRata" = true := by first | (simp [plainName, overriddenIn]; done) | decide +kernel
theorem ef2n0 (m : MethodId) (a1 : Addr) : entryFrame m #[(.ref a1)] 3 = mkF m 0 #[.val (.ref a1), .unset, .unset] [] := by first | (simp [entryFrame, mkF, argsToLocals, Value.category]; done) | rfl
def Q2n0 (Z : State) (a1 : Addr) (kk : ClassId) (h0 : Heap) (n0 : Nat) (v : Option Value) (h : Heap) (L : List Loc) : Prop := v = some (.int (1 : Int32)) ∧ Fr n0 L ∧ h = h0
set_option maxRecDepth 65536 in
set_option maxHeartbeats 40000000 in
theorem rm2n0 (l : Launch) (Z : State) (a0 : Array Value) (hw : ∀ d ∈ tables_1, d.before a0 Z = true) (ws : List Jvm.Cond) (a1 : Addr) (kk : ClassId) (h0 : Heap) (n0 : Nat) (Z0 : n0 ≤ h0.size) (V0 : Arv Z h0 a1 kk .long (0 : Int32) [] (.long (0 : Int64))) :
    MetFree l (⟨"com/example/vestline/vestline/ProRata", "noWeight", "([J)Z"⟩ : MethodName) (head1 (Jvm.Cond.code (⟨"com/example/vestline/vestline/ProRata", "noWeight", "([J)Z"⟩ : MethodName) prog_53_method_3_code 3 (some .boolean) :: ws) ({ frames := 0, cells := 0, slots := 0, locals := 0 } : Room)) (fun a U => a = #[(.ref a1)] ∧ Z.Warmed39 U.vm ∧ U.heap = h0) (fun _ _ _ _ _ => True) (fun _ U o U' => ∃ v L, o = .returned v ∧ Q2n0 Z a1 kk h0 n0 v U'.heap L ∧ FrameEnd U o U' L ({ frames := 0, cells := 0, slots := 0, locals := 0 } : Room).cells ({ frames := 0, cells := 0, slots := 0, locals := 0 } : Room).slots) := by
  refine MetFree.of_bodySF (plainFor_of_name pn2n0) hisR ?_
  intro p e s m args below meth c s₁ Bd hml0 hP hK
  obtain ⟨rfl, hZ, hh⟩ := hP
  have hx := Bd.exec
  have hby := Bd.bytes
  have hml : c.maxLocals = 3 := hml0
  have hown : s.vm.findClass "com/example/vestline/vestline/ProRata" = some m.cls := findClass_of_methodNamed Bd.named
  have hnm := (name_of_methodNamed Bd.named Bd.method).1
  have X0 : Stand p l e ({ frames := 0, cells := 0, slots := 0, locals := 0 } : Room) s m #[(.ref a1)] below meth c s₁ [] 0 0 := Stand.of_body Bd
  have e0 : s₁.heap = h0 := by rw [← hh, Bd.state]; rfl
  have N0 := Fr.nil n0
  have pre0 : ∀ t, Steps p.tables e below (s₁.setTop (mkF m 0 #[.val (.ref a1), .unset, .unset] [])) t → Steps p.tables e below (s₁.setTop (entryFrame m #[(.ref a1)] 3)) t := fun t k => castTop (ef2n0 m a1) k
  have cp6_1 := V0
  obtain ⟨cl6_1, Ar6_1, -, Sa6_1, Na6_1, -, -⟩ := cp6_1
  obtain ⟨fs, hr, hrun, hended, hW, hsame⟩ := X0.leave (v := some (.int (1 : Int32))) (fun h => by rw [Bd.returns] at h; cases h)
  refine ⟨_, _, pre0 _ ?_, hrun, hended, _, _, rfl, ?_, ⟨_, rfl⟩, hW, hsame.mono (by decide) (by decide)⟩
  · show Steps p.tables e below (s₁.setTop (mkF m 0 #[.val (.ref a1), .unset, .unset] [])) _
    refine XS.iconst X0.here hx rfl (hb hby d2_0) ?_
    show Steps p.tables e below (s₁.setTop (mkF m 1 #[.val (.ref a1), .unset, .unset] [(.int (1 : Int32))])) _
    refine XS.istoreN X0.here hx rfl (hb hby d2_1) rfl (l' := #[.val (.ref a1), .val (.int (1 : Int32)), .unset]) rfl ?_
    show Steps p.tables e below (s₁.setTop (mkF m 2 #[.val (.ref a1), .val (.int (1 : Int32)), .unset] [])) _
    refine XS.iconst X0.here hx rfl (hb hby d2_2) ?_
    show Steps p.tables e below (s₁.setTop (mkF m 3 #[.val (.ref a1), .val (.int (1 : Int32)), .unset] [(.int (0 : Int32))])) _
    refine XS.istoreN X0.here hx rfl (hb hby d2_3) rfl (l' := #[.val (.ref a1), .val (.int (1 : Int32)), .val (.int (0 : Int32))]) rfl ?_
    show Steps p.tables e below (s₁.setTop (mkF m 4 #[.val (.ref a1), .val (.int (1 : Int32)), .val (.int (0 : Int32))] [])) _
    refine XS.iloadN X0.here hx rfl (hb hby d2_4) rfl ?_
    show Steps p.tables e below (s₁.setTop (mkF m 5 #[.val (.ref a1), .val (.int (1 : Int32)), .val (.int (0 : Int32))] [(.int (0 : Int32))])) _
    refine XS.aloadN X0.here hx rfl (hb hby d2_5) rfl rfl ?_
    show Steps p.tables e below (s₁.setTop (mkF m 6 #[.val (.ref a1), .val (.int (1 : Int32)), .val (.int (0 : Int32))] [(.ref a1), (.int (0 : Int32))])) _
    refine X0.arraylength hx (by first | exact Ar6_1.1 | (rw [e0]; exact Ar6_1.1)) (State.isArrayOf_alike hZ.alike Ar6_1.2.1) (g := (mkF m 6 #[.val (.ref a1), .val (.int (1 : Int32)), .val (.int (0 : Int32))] [(.ref a1), (.int (0 : Int32))])) rfl rfl (hb hby d2_6) _ ?_
    rw [len_of Sa6_1 Na6_1]
    show Steps p.tables e below (s₁.setTop (mkF m 7 #[.val (.ref a1), .val (.int (1 : Int32)), .val (.int (0 : Int32))] [(.int (0 : Int32)), (.int (0 : Int32))])) _
    refine XS.icmpYes X0.here hx rfl (pc0 := 7) (pc' := 34) rfl (hb hby d2_7) rfl (flt (by decide)).2.1 (by decide) (by decide) ?_
    show Steps p.tables e below (s₁.setTop (mkF m 34 #[.val (.ref a1), .val (.int (1 : Int32)), .val (.int (0 : Int32))] [])) _
    refine XS.iloadN X0.here hx rfl (hb hby d2_34) rfl ?_
    show Steps p.tables e below (s₁.setTop (mkF m 35 #[.val (.ref a1), .val (.int (1 : Int32)), .val (.int (0 : Int32))] [(.int (1 : Int32))])) _
    exact retN X0 hx (t := .boolean) Bd.returns (by simp) (hb hby d2_35) hr
  · show Q2n0 Z a1 kk h0 n0 _ s₁.heap _
    rw [e0]
    exact ⟨rfl, N0, rfl⟩
theorem d2_10 : decode prog_53_method_3_code 10 = .ok (.iload_n 1, 1) := by decide +kernel
theorem d2_11 : decode prog_53_method_3_code 11 = .ok (.ifCond .eq 23, 3) := by decide +kernel
theorem d2_14 : decode prog_53_method_3_code 14 = .ok (.aload_n 0, 1) := by decide +kernel
theorem d2_15 : decode prog_53_method_3_code 15 = .ok (.iload_n 2, 1) := by decide +kernel
theorem d2_16 : decode prog_53_method_3_code 16 = .ok (.laload, 1) := by decide +kernel
theorem d2_17 : decode prog_53_method_3_code 17 = .ok (.lconst 0, 1) := by decide +kernel
theorem d2_18 : decode prog_53_method_3_code 18 = .ok (.lcmp, 1) := by decide +kernel
theorem d2_19 : decode prog_53_method_3_code 19 = .ok (.ifCond .ne 7, 3) := by decide +kernel
theorem d2_22 : decode prog_53_method_3_code 22 = .ok (.iconst 1, 1) := by decide +kernel
theorem d2_23 : decode prog_53_method_3_code 23 = .ok (.goto 4, 3) := by decide +kernel
theorem d2_26 : decode prog_53_method_3_code 26 = .ok (.iconst 0, 1) := by decide +kernel
theorem d2_27 : decode prog_53_method_3_code 27 = .ok (.istore_n 1, 1) := by decide +kernel
theorem d2_28 : decode prog_53_method_3_code 28 = .ok (.iinc 2 1, 3) := by decide +kernel
theorem d2_31 : decode prog_53_method_3_code 31 = .ok (.goto (-27), 3) := by decide +kernel
theorem pn2n1 : plainName "com/example/vestline/vestline/ProRata" = true := by first | (simp [plainName, overriddenIn]; done) | decide +kernel
theorem ef2n1 (m : MethodId) (a1 : Addr) : entryFrame m #[(.ref a1)] 3 = mkF m 0 #[.val (.ref a1), .unset, .unset] [] := by first | (simp [entryFrame, mkF, argsToLocals, Value.category]; done) | rfl
def own_nw1 (x0 : Int64) : Int32 := (if x0 = (0 : Int64) then (1 : Int32) else (0 : Int32))
def Q2n1 (Z : State) (a1 : Addr) (kk : ClassId) (x0 : Int64) (h0 : Heap) (n0 : Nat) (v : Option Value) (h : Heap) (L : List Loc) : Prop := v = some (.int (own_nw1 x0)) ∧ Fr n0 L ∧ h = h0
set_option maxRecDepth 65536 in
set_option maxHeartbeats 40000000 in
theorem rm2n1 (l : Launch) (Z : State) (a0 : Array Value) (hw : ∀ d ∈ tables_1, d.before a0 Z = true) (ws : List Jvm.Cond) (a1 : Addr) (kk : ClassId) (x0 : Int64) (h0 : Heap) (n0 : Nat) (Z0 : n0 ≤ h0.size) (V0 : Arv Z h0 a1 kk .long (1 : Int32) [(.long x0)] (.long (0 : Int64))) :
    MetFree l (⟨"com/example/vestline/vestline/ProRata", "noWeight", "([J)Z"⟩ : MethodName) (head1 (Jvm.Cond.code (⟨"com/example/vestline/vestline/ProRata", "noWeight", "([J)Z"⟩ : MethodName) prog_53_method_3_code 3 (some .boolean) :: ws) ({ frames := 0, cells := 0, slots := 0, locals := 0 } : Room)) (fun a U => a = #[(.ref a1)] ∧ Z.Warmed39 U.vm ∧ U.heap = h0) (fun _ _ _ _ _ => True) (fun _ U o U' => ∃ v L, o = .returned v ∧ Q2n1 Z a1 kk x0 h0 n0 v U'.heap L ∧ FrameEnd U o U' L ({ frames := 0, cells := 0, slots := 0, locals := 0 } : Room).cells ({ frames := 0, cells := 0, slots := 0, locals := 0 } : Room).slots) := by
  refine MetFree.of_bodySF (plainFor_of_name pn2n1) hisR ?_
  intro p e s m args below meth c s₁ Bd hml0 hP hK
  obtain ⟨rfl, hZ, hh⟩ := hP
  have hx := Bd.exec
  have hby := Bd.bytes
  have hml : c.maxLocals = 3 := hml0
  have hown : s.vm.findClass "com/example/vestline/vestline/ProRata" = some m.cls := findClass_of_methodNamed Bd.named
  have hnm := (name_of_methodNamed Bd.named Bd.method).1
  have X0 : Stand p l e ({ frames := 0, cells := 0, slots := 0, locals := 0 } : Room) s m #[(.ref a1)] below meth c s₁ [] 0 0 := Stand.of_body Bd
  have e0 : s₁.heap = h0 := by rw [← hh, Bd.state]; rfl
  have N0 := Fr.nil n0
  have pre0 : ∀ t, Steps p.tables e below (s₁.setTop (mkF m 0 #[.val (.ref a1), .unset, .unset] [])) t → Steps p.tables e below (s₁.setTop (entryFrame m #[(.ref a1)] 3)) t := fun t k => castTop (ef2n1 m a1) k
  have cp6_1 := V0
  obtain ⟨cl6_1, Ar6_1, -, Sa6_1, Na6_1, -, -⟩ := cp6_1
  have cp16_2 := V0
  obtain ⟨cl16_2, Ar16_2, -, Sa16_2, Na16_2, Ha16_2, -⟩ := cp16_2
  have hin16_2 : ¬ ((0 : Int32) < 0 ∨ cl16_2.slots.size ≤ ((0 : Int32)).toNatClampNeg) := inb_of Sa16_2 ⟨by decide, by decide⟩
  have hat16_2 : cl16_2.slots[((0 : Int32)).toNatClampNeg]? = some (.long x0) := Ha16_2.at hin16_2 rfl
  have c3 : ∀ t, Steps p.tables e below (s₁.setTop (mkF m 19 #[.val (.ref a1), .val (.int (1 : Int32)), .val (.int (0 : Int32))] [(.int (lcmpW x0 (0 : Int64)))])) t → Steps p.tables e below (s₁.setTop (entryFrame m #[(.ref a1)] 3)) t := fun t kt => by
    refine pre0 _ ?_
    show Steps p.tables e below (s₁.setTop (mkF m 0 #[.val (.ref a1), .unset, .unset] [])) _
    refine XS.iconst X0.here hx rfl (hb hby d2_0) ?_
    show Steps p.tables e below (s₁.setTop (mkF m 1 #[.val (.ref a1), .unset, .unset] [(.int (1 : Int32))])) _
    refine XS.istoreN X0.here hx rfl (hb hby d2_1) rfl (l' := #[.val (.ref a1), .val (.int (1 : Int32)), .unset]) rfl ?_
    show Steps p.tables e below (s₁.setTop (mkF m 2 #[.val (.ref a1), .val (.int (1 : Int32)), .unset] [])) _
    refine XS.iconst X0.here hx rfl (hb hby d2_2) ?_
    show Steps p.tables e below (s₁.setTop (mkF m 3 #[.val (.ref a1), .val (.int (1 : Int32)), .unset] [(.int (0 : Int32))])) _
    refine XS.istoreN X0.here hx rfl (hb hby d2_3) rfl (l' := #[.val (.ref a1), .val (.int (1 : Int32)), .val (.int (0 : Int32))]) rfl ?_
    show Steps p.tables e below (s₁.setTop (mkF m 4 #[.val (.ref a1), .val (.int (1 : Int32)), .val (.int (0 : Int32))] [])) _
    refine XS.iloadN X0.here hx rfl (hb hby d2_4) rfl ?_
    show Steps p.tables e below (s₁.setTop (mkF m 5 #[.val (.ref a1), .val (.int (1 : Int32)), .val (.int (0 : Int32))] [(.int (0 : Int32))])) _
    refine XS.aloadN X0.here hx rfl (hb hby d2_5) rfl rfl ?_
    show Steps p.tables e below (s₁.setTop (mkF m 6 #[.val (.ref a1), .val (.int (1 : Int32)), .val (.int (0 : Int32))] [(.ref a1), (.int (0 : Int32))])) _
    refine X0.arraylength hx (by first | exact Ar6_1.1 | (rw [e0]; exact Ar6_1.1)) (State.isArrayOf_alike hZ.alike Ar6_1.2.1) (g := (mkF m 6 #[.val (.ref a1), .val (.int (1 : Int32)), .val (.int (0 : Int32))] [(.ref a1), (.int (0 : Int32))])) rfl rfl (hb hby d2_6) _ ?_
    rw [len_of Sa6_1 Na6_1]
    show Steps p.tables e below (s₁.setTop (mkF m 7 #[.val (.ref a1), .val (.int (1 : Int32)), .val (.int (0 : Int32))] [(.int (1 : Int32)), (.int (0 : Int32))])) _
    refine XS.icmpNo X0.here hx rfl (hb hby d2_7) rfl (tlt (by decide)).2.1 ?_
    show Steps p.tables e below (s₁.setTop (mkF m 10 #[.val (.ref a1), .val (.int (1 : Int32)), .val (.int (0 : Int32))] [])) _
    refine XS.iloadN X0.here hx rfl (hb hby d2_10) rfl ?_
    show Steps p.tables e below (s₁.setTop (mkF m 11 #[.val (.ref a1), .val (.int (1 : Int32)), .val (.int (0 : Int32))] [(.int (1 : Int32))])) _
    refine XS.ifNo X0.here hx rfl (hb hby d2_11) rfl ((if0 _ _).trans (feq (by decide)).1) ?_
    show Steps p.tables e below (s₁.setTop (mkF m 14 #[.val (.ref a1), .val (.int (1 : Int32)), .val (.int (0 : Int32))] [])) _
    refine XS.aloadN X0.here hx rfl (hb hby d2_14) rfl rfl ?_
    show Steps p.tables e below (s₁.setTop (mkF m 15 #[.val (.ref a1), .val (.int (1 : Int32)), .val (.int (0 : Int32))] [(.ref a1)])) _
    refine XS.iloadN X0.here hx rfl (hb hby d2_15) rfl ?_
    show Steps p.tables e below (s₁.setTop (mkF m 16 #[.val (.ref a1), .val (.int (1 : Int32)), .val (.int (0 : Int32))] [(.int (0 : Int32)), (.ref a1)])) _
    refine X0.laload hx (j := (0 : Int32)) (v := (.long x0)) (by first | exact Ar16_2.1 | (rw [e0]; exact Ar16_2.1)) (State.isArrayOf_alike hZ.alike Ar16_2.2.1) Ar16_2.2.2 hin16_2 hat16_2 (g := (mkF m 16 #[.val (.ref a1), .val (.int (1 : Int32)), .val (.int (0 : Int32))] [(.int (0 : Int32)), (.ref a1)])) rfl rfl (hb hby d2_16) _ ?_
    show Steps p.tables e below (s₁.setTop (mkF m 17 #[.val (.ref a1), .val (.int (1 : Int32)), .val (.int (0 : Int32))] [(.long x0)])) _
    refine XS.lconst X0.here hx rfl (hb hby d2_17) ?_
    show Steps p.tables e below (s₁.setTop (mkF m 18 #[.val (.ref a1), .val (.int (1 : Int32)), .val (.int (0 : Int32))] [(.long (0 : Int64)), (.long x0)])) _
    refine XS.lcmp X0.here hx rfl (hb hby d2_18) rfl ?_
    exact kt
  by_cases hc19 : x0 = (0 : Int64)
  · have cp6_4 := V0
    obtain ⟨cl6_4, Ar6_4, -, Sa6_4, Na6_4, -, -⟩ := cp6_4
    obtain ⟨fs, hr, hrun, hended, hW, hsame⟩ := X0.leave (v := some (.int (1 : Int32))) (fun h => by rw [Bd.returns] at h; cases h)
    refine ⟨_, _, c3 _ ?_, hrun, hended, _, _, rfl, ?_, ⟨_, rfl⟩, hW, hsame.mono (by decide) (by decide)⟩
    · show Steps p.tables e below (s₁.setTop (mkF m 19 #[.val (.ref a1), .val (.int (1 : Int32)), .val (.int (0 : Int32))] [(.int (lcmpW x0 (0 : Int64)))])) _
      refine XS.ifNo X0.here hx rfl (hb hby d2_19) rfl ((if0 _ _).trans (teq ((lw_eq x0 (0 : Int64)).mpr hc19)).2) ?_
      show Steps p.tables e below (s₁.setTop (mkF m 22 #[.val (.ref a1), .val (.int (1 : Int32)), .val (.int (0 : Int32))] [])) _
      refine XS.iconst X0.here hx rfl (hb hby d2_22) ?_
      show Steps p.tables e below (s₁.setTop (mkF m 23 #[.val (.ref a1), .val (.int (1 : Int32)), .val (.int (0 : Int32))] [(.int (1 : Int32))])) _
      refine XS.goto X0.here hx rfl (pc0 := 23) (pc' := 27) rfl (hb hby d2_23) (by decide) (by decide) ?_
      show Steps p.tables e below (s₁.setTop (mkF m 27 #[.val (.ref a1), .val (.int (1 : Int32)), .val (.int (0 : Int32))] [(.int (1 : Int32))])) _
      refine XS.istoreN X0.here hx rfl (hb hby d2_27) rfl (l' := #[.val (.ref a1), .val (.int (1 : Int32)), .val (.int (0 : Int32))]) rfl ?_
      show Steps p.tables e below (s₁.setTop (mkF m 28 #[.val (.ref a1), .val (.int (1 : Int32)), .val (.int (0 : Int32))] [])) _
      refine XS.iinc X0.here hx rfl (hb hby d2_28) rfl (l' := #[.val (.ref a1), .val (.int (1 : Int32)), .val (.int (1 : Int32))]) rfl ?_
      show Steps p.tables e below (s₁.setTop (mkF m 31 #[.val (.ref a1), .val (.int (1 : Int32)), .val (.int (1 : Int32))] [])) _
      refine XS.goto X0.here hx rfl (pc0 := 31) (pc' := 4) rfl (hb hby d2_31) (by decide) (by decide) ?_
      show Steps p.tables e below (s₁.setTop (mkF m 4 #[.val (.ref a1), .val (.int (1 : Int32)), .val (.int (1 : Int32))] [])) _
      refine XS.iloadN X0.here hx rfl (hb hby d2_4) rfl ?_
      show Steps p.tables e below (s₁.setTop (mkF m 5 #[.val (.ref a1), .val (.int (1 : Int32)), .val (.int (1 : Int32))] [(.int (1 : Int32))])) _
      refine XS.aloadN X0.here hx rfl (hb hby d2_5) rfl rfl ?_
      show Steps p.tables e below (s₁.setTop (mkF m 6 #[.val (.ref a1), .val (.int (1 : Int32)), .val (.int (1 : Int32))] [(.ref a1), (.int (1 : Int32))])) _
      refine X0.arraylength hx (by first | exact Ar6_4.1 | (rw [e0]; exact Ar6_4.1)) (State.isArrayOf_alike hZ.alike Ar6_4.2.1) (g := (mkF m 6 #[.val (.ref a1), .val (.int (1 : Int32)), .val (.int (1 : Int32))] [(.ref a1), (.int (1 : Int32))])) rfl rfl (hb hby d2_6) _ ?_
      rw [len_of Sa6_4 Na6_4]
      show Steps p.tables e below (s₁.setTop (mkF m 7 #[.val (.ref a1), .val (.int (1 : Int32)), .val (.int (1 : Int32))] [(.int (1 : Int32)), (.int (1 : Int32))])) _
      refine XS.icmpYes X0.here hx rfl (pc0 := 7) (pc' := 34) rfl (hb hby d2_7) rfl (flt (by decide)).2.1 (by decide) (by decide) ?_
      show Steps p.tables e below (s₁.setTop (mkF m 34 #[.val (.ref a1), .val (.int (1 : Int32)), .val (.int (1 : Int32))] [])) _
      refine XS.iloadN X0.here hx rfl (hb hby d2_34) rfl ?_
      show Steps p.tables e below (s₁.setTop (mkF m 35 #[.val (.ref a1), .val (.int (1 : Int32)), .val (.int (1 : Int32))] [(.int (1 : Int32))])) _
      exact retN X0 hx (t := .boolean) Bd.returns (by simp) (hb hby d2_35) hr
    · show Q2n1 Z a1 kk x0 h0 n0 _ s₁.heap _
      rw [e0]
      have hv : (own_nw1 x0) = (1 : Int32) := by unfold own_nw1; rw [if_pos hc19]
      exact ⟨by rw [hv], N0, rfl⟩
  · have cp6_5 := V0
    obtain ⟨cl6_5, Ar6_5, -, Sa6_5, Na6_5, -, -⟩ := cp6_5
    obtain ⟨fs, hr, hrun, hended, hW, hsame⟩ := X0.leave (v := some (.int (0 : Int32))) (fun h => by rw [Bd.returns] at h; cases h)
    refine ⟨_, _, c3 _ ?_, hrun, hended, _, _, rfl, ?_, ⟨_, rfl⟩, hW, hsame.mono (by decide) (by decide)⟩
    · show Steps p.tables e below (s₁.setTop (mkF m 19 #[.val (.ref a1), .val (.int (1 : Int32)), .val (.int (0 : Int32))] [(.int (lcmpW x0 (0 : Int64)))])) _
      refine XS.ifYes X0.here hx rfl (pc0 := 19) (pc' := 26) rfl (hb hby d2_19) rfl ((if0 _ _).trans (feq (fun q => hc19 ((lw_eq x0 (0 : Int64)).mp q))).2) (by decide) (by decide) ?_
      show Steps p.tables e below (s₁.setTop (mkF m 26 #[.val (.ref a1), .val (.int (1 : Int32)), .val (.int (0 : Int32))] [])) _
      refine XS.iconst X0.here hx rfl (hb hby d2_26) ?_
      show Steps p.tables e below (s₁.setTop (mkF m 27 #[.val (.ref a1), .val (.int (1 : Int32)), .val (.int (0 : Int32))] [(.int (0 : Int32))])) _
      refine XS.istoreN X0.here hx rfl (hb hby d2_27) rfl (l' := #[.val (.ref a1), .val (.int (0 : Int32)), .val (.int (0 : Int32))]) rfl ?_
      show Steps p.tables e below (s₁.setTop (mkF m 28 #[.val (.ref a1), .val (.int (0 : Int32)), .val (.int (0 : Int32))] [])) _
      refine XS.iinc X0.here hx rfl (hb hby d2_28) rfl (l' := #[.val (.ref a1), .val (.int (0 : Int32)), .val (.int (1 : Int32))]) rfl ?_
      show Steps p.tables e below (s₁.setTop (mkF m 31 #[.val (.ref a1), .val (.int (0 : Int32)), .val (.int (1 : Int32))] [])) _
      refine XS.goto X0.here hx rfl (pc0 := 31) (pc' := 4) rfl (hb hby d2_31) (by decide) (by decide) ?_
      show Steps p.tables e below (s₁.setTop (mkF m 4 #[.val (.ref a1), .val (.int (0 : Int32)), .val (.int (1 : Int32))] [])) _
      refine XS.iloadN X0.here hx rfl (hb hby d2_4) rfl ?_
      show Steps p.tables e below (s₁.setTop (mkF m 5 #[.val (.ref a1), .val (.int (0 : Int32)), .val (.int (1 : Int32))] [(.int (1 : Int32))])) _
      refine XS.aloadN X0.here hx rfl (hb hby d2_5) rfl rfl ?_
      show Steps p.tables e below (s₁.setTop (mkF m 6 #[.val (.ref a1), .val (.int (0 : Int32)), .val (.int (1 : Int32))] [(.ref a1), (.int (1 : Int32))])) _
      refine X0.arraylength hx (by first | exact Ar6_5.1 | (rw [e0]; exact Ar6_5.1)) (State.isArrayOf_alike hZ.alike Ar6_5.2.1) (g := (mkF m 6 #[.val (.ref a1), .val (.int (0 : Int32)), .val (.int (1 : Int32))] [(.ref a1), (.int (1 : Int32))])) rfl rfl (hb hby d2_6) _ ?_
      rw [len_of Sa6_5 Na6_5]
      show Steps p.tables e below (s₁.setTop (mkF m 7 #[.val (.ref a1), .val (.int (0 : Int32)), .val (.int (1 : Int32))] [(.int (1 : Int32)), (.int (1 : Int32))])) _
      refine XS.icmpYes X0.here hx rfl (pc0 := 7) (pc' := 34) rfl (hb hby d2_7) rfl (flt (by decide)).2.1 (by decide) (by decide) ?_
      show Steps p.tables e below (s₁.setTop (mkF m 34 #[.val (.ref a1), .val (.int (0 : Int32)), .val (.int (1 : Int32))] [])) _
      refine XS.iloadN X0.here hx rfl (hb hby d2_34) rfl ?_
      show Steps p.tables e below (s₁.setTop (mkF m 35 #[.val (.ref a1), .val (.int (0 : Int32)), .val (.int (1 : Int32))] [(.int (0 : Int32))])) _
      exact retN X0 hx (t := .boolean) Bd.returns (by simp) (hb hby d2_35) hr
    · show Q2n1 Z a1 kk x0 h0 n0 _ s₁.heap _
      rw [e0]
      have hv : (own_nw1 x0) = (0 : Int32) := by unfold own_nw1; rw [if_neg hc19]
      exact ⟨by rw [hv], N0, rfl⟩
theorem pn2n2 : plainName "com/example/vestline/vestline/ProRata" = true := by first | (simp [plainName, overriddenIn]; done) | decide +kernel
theorem ef2n2 (m : MethodId) (a1 : Addr) : entryFrame m #[(.ref a1)] 3 = mkF m 0 #[.val (.ref a1), .unset, .unset] [] := by first | (simp [entryFrame, mkF, argsToLocals, Value.category]; done) | rfl
def own_nw2 (x0 : Int64) (x1 : Int64) : Int32 := (if x0 = (0 : Int64) then (if x1 = (0 : Int64) then (1 : Int32) else (0 : Int32)) else (0 : Int32))
def Q2n2 (Z : State) (a1 : Addr) (kk : ClassId) (x0 : Int64) (x1 : Int64) (h0 : Heap) (n0 : Nat) (v : Option Value) (h : Heap) (L : List Loc) : Prop := v = some (.int (own_nw2 x0 x1)) ∧ Fr n0 L ∧ h = h0
set_option maxRecDepth 65536 in
set_option maxHeartbeats 40000000 in
theorem rm2n2 (l : Launch) (Z : State) (a0 : Array Value) (hw : ∀ d ∈ tables_1, d.before a0 Z = true) (ws : List Jvm.Cond) (a1 : Addr) (kk : ClassId) (x0 : Int64) (x1 : Int64) (h0 : Heap) (n0 : Nat) (Z0 : n0 ≤ h0.size) (V0 : Arv Z h0 a1 kk .long (2 : Int32) [(.long x0), (.long x1)] (.long (0 : Int64))) :
    MetFree l (⟨"com/example/vestline/vestline/ProRata", "noWeight", "([J)Z"⟩ : MethodName) (head1 (Jvm.Cond.code (⟨"com/example/vestline/vestline/ProRata", "noWeight", "([J)Z"⟩ : MethodName) prog_53_method_3_code 3 (some .boolean) :: ws) ({ frames := 0, cells := 0, slots := 0, locals := 0 } : Room)) (fun a U => a = #[(.ref a1)] ∧ Z.Warmed39 U.vm ∧ U.heap = h0) (fun _ _ _ _ _ => True) (fun _ U o U' => ∃ v L, o = .returned v ∧ Q2n2 Z a1 kk x0 x1 h0 n0 v U'.heap L ∧ FrameEnd U o U' L ({ frames := 0, cells := 0, slots := 0, locals := 0 } : Room).cells ({ frames := 0, cells := 0, slots := 0, locals := 0 } : Room).slots) := by
  refine MetFree.of_bodySF (plainFor_of_name pn2n2) hisR ?_
  intro p e s m args below meth c s₁ Bd hml0 hP hK
  obtain ⟨rfl, hZ, hh⟩ := hP
  have hx := Bd.exec
  have hby := Bd.bytes
  have hml : c.maxLocals = 3 := hml0
  have hown : s.vm.findClass "com/example/vestline/vestline/ProRata" = some m.cls := findClass_of_methodNamed Bd.named
  have hnm := (name_of_methodNamed Bd.named Bd.method).1
  have X0 : Stand p l e ({ frames := 0, cells := 0, slots := 0, locals := 0 } : Room) s m #[(.ref a1)] below meth c s₁ [] 0 0 := Stand.of_body Bd
  have e0 : s₁.heap = h0 := by rw [← hh, Bd.state]; rfl
  have N0 := Fr.nil n0
  have pre0 : ∀ t, Steps p.tables e below (s₁.setTop (mkF m 0 #[.val (.ref a1), .unset, .unset] [])) t → Steps p.tables e below (s₁.setTop (entryFrame m #[(.ref a1)] 3)) t := fun t k => castTop (ef2n2 m a1) k
  have cp6_1 := V0
  obtain ⟨cl6_1, Ar6_1, -, Sa6_1, Na6_1, -, -⟩ := cp6_1
  have cp16_2 := V0
  obtain ⟨cl16_2, Ar16_2, -, Sa16_2, Na16_2, Ha16_2, -⟩ := cp16_2
  have hin16_2 : ¬ ((0 : Int32) < 0 ∨ cl16_2.slots.size ≤ ((0 : Int32)).toNatClampNeg) := inb_of Sa16_2 ⟨by decide, by decide⟩
  have hat16_2 : cl16_2.slots[((0 : Int32)).toNatClampNeg]? = some (.long x0) := Ha16_2.at hin16_2 rfl
  have c3 : ∀ t, Steps p.tables e below (s₁.setTop (mkF m 19 #[.val (.ref a1), .val (.int (1 : Int32)), .val (.int (0 : Int32))] [(.int (lcmpW x0 (0 : Int64)))])) t → Steps p.tables e below (s₁.setTop (entryFrame m #[(.ref a1)] 3)) t := fun t kt => by
    refine pre0 _ ?_
    show Steps p.tables e below (s₁.setTop (mkF m 0 #[.val (.ref a1), .unset, .unset] [])) _
    refine XS.iconst X0.here hx rfl (hb hby d2_0) ?_
    show Steps p.tables e below (s₁.setTop (mkF m 1 #[.val (.ref a1), .unset, .unset] [(.int (1 : Int32))])) _
    refine XS.istoreN X0.here hx rfl (hb hby d2_1) rfl (l' := #[.val (.ref a1), .val (.int (1 : Int32)), .unset]) rfl ?_
    show Steps p.tables e below (s₁.setTop (mkF m 2 #[.val (.ref a1), .val (.int (1 : Int32)), .unset] [])) _
    refine XS.iconst X0.here hx rfl (hb hby d2_2) ?_
    show Steps p.tables e below (s₁.setTop (mkF m 3 #[.val (.ref a1), .val (.int (1 : Int32)), .unset] [(.int (0 : Int32))])) _
    refine XS.istoreN X0.here hx rfl (hb hby d2_3) rfl (l' := #[.val (.ref a1), .val (.int (1 : Int32)), .val (.int (0 : Int32))]) rfl ?_
    show Steps p.tables e below (s₁.setTop (mkF m 4 #[.val (.ref a1), .val (.int (1 : Int32)), .val (.int (0 : Int32))] [])) _
    refine XS.iloadN X0.here hx rfl (hb hby d2_4) rfl ?_
    show Steps p.tables e below (s₁.setTop (mkF m 5 #[.val (.ref a1), .val (.int (1 : Int32)), .val (.int (0 : Int32))] [(.int (0 : Int32))])) _
    refine XS.aloadN X0.here hx rfl (hb hby d2_5) rfl rfl ?_
    show Steps p.tables e below (s₁.setTop (mkF m 6 #[.val (.ref a1), .val (.int (1 : Int32)), .val (.int (0 : Int32))] [(.ref a1), (.int (0 : Int32))])) _
    refine X0.arraylength hx (by first | exact Ar6_1.1 | (rw [e0]; exact Ar6_1.1)) (State.isArrayOf_alike hZ.alike Ar6_1.2.1) (g := (mkF m 6 #[.val (.ref a1), .val (.int (1 : Int32)), .val (.int (0 : Int32))] [(.ref a1), (.int (0 : Int32))])) rfl rfl (hb hby d2_6) _ ?_
    rw [len_of Sa6_1 Na6_1]
    show Steps p.tables e below (s₁.setTop (mkF m 7 #[.val (.ref a1), .val (.int (1 : Int32)), .val (.int (0 : Int32))] [(.int (2 : Int32)), (.int (0 : Int32))])) _
    refine XS.icmpNo X0.here hx rfl (hb hby d2_7) rfl (tlt (by decide)).2.1 ?_
    show Steps p.tables e below (s₁.setTop (mkF m 10 #[.val (.ref a1), .val (.int (1 : Int32)), .val (.int (0 : Int32))] [])) _
    refine XS.iloadN X0.here hx rfl (hb hby d2_10) rfl ?_
    show Steps p.tables e below (s₁.setTop (mkF m 11 #[.val (.ref a1), .val (.int (1 : Int32)), .val (.int (0 : Int32))] [(.int (1 : Int32))])) _
    refine XS.ifNo X0.here hx rfl (hb hby d2_11) rfl ((if0 _ _).trans (feq (by decide)).1) ?_
    show Steps p.tables e below (s₁.setTop (mkF m 14 #[.val (.ref a1), .val (.int (1 : Int32)), .val (.int (0 : Int32))] [])) _
    refine XS.aloadN X0.here hx rfl (hb hby d2_14) rfl rfl ?_
    show Steps p.tables e below (s₁.setTop (mkF m 15 #[.val (.ref a1), .val (.int (1 : Int32)), .val (.int (0 : Int32))] [(.ref a1)])) _
    refine XS.iloadN X0.here hx rfl (hb hby d2_15) rfl ?_
    show Steps p.tables e below (s₁.setTop (mkF m 16 #[.val (.ref a1), .val (.int (1 : Int32)), .val (.int (0 : Int32))] [(.int (0 : Int32)), (.ref a1)])) _
    refine X0.laload hx (j := (0 : Int32)) (v := (.long x0)) (by first | exact Ar16_2.1 | (rw [e0]; exact Ar16_2.1)) (State.isArrayOf_alike hZ.alike Ar16_2.2.1) Ar16_2.2.2 hin16_2 hat16_2 (g := (mkF m 16 #[.val (.ref a1), .val (.int (1 : Int32)), .val (.int (0 : Int32))] [(.int (0 : Int32)), (.ref a1)])) rfl rfl (hb hby d2_16) _ ?_
    show Steps p.tables e below (s₁.setTop (mkF m 17 #[.val (.ref a1), .val (.int (1 : Int32)), .val (.int (0 : Int32))] [(.long x0)])) _
    refine XS.lconst X0.here hx rfl (hb hby d2_17) ?_
    show Steps p.tables e below (s₁.setTop (mkF m 18 #[.val (.ref a1), .val (.int (1 : Int32)), .val (.int (0 : Int32))] [(.long (0 : Int64)), (.long x0)])) _
    refine XS.lcmp X0.here hx rfl (hb hby d2_18) rfl ?_
    exact kt
  by_cases hc19 : x0 = (0 : Int64)
  · have cp6_4 := V0
    obtain ⟨cl6_4, Ar6_4, -, Sa6_4, Na6_4, -, -⟩ := cp6_4
    have cp16_5 := V0
    obtain ⟨cl16_5, Ar16_5, -, Sa16_5, Na16_5, Ha16_5, -⟩ := cp16_5
    have hin16_5 : ¬ ((1 : Int32) < 0 ∨ cl16_5.slots.size ≤ ((1 : Int32)).toNatClampNeg) := inb_of Sa16_5 ⟨by decide, by decide⟩
    have hat16_5 : cl16_5.slots[((1 : Int32)).toNatClampNeg]? = some (.long x1) := Ha16_5.at hin16_5 rfl
    have c6 : ∀ t, Steps p.tables e below (s₁.setTop (mkF m 19 #[.val (.ref a1), .val (.int (1 : Int32)), .val (.int (1 : Int32))] [(.int (lcmpW x1 (0 : Int64)))])) t → Steps p.tables e below (s₁.setTop (entryFrame m #[(.ref a1)] 3)) t := fun t kt => by
      refine c3 _ ?_
      show Steps p.tables e below (s₁.setTop (mkF m 19 #[.val (.ref a1), .val (.int (1 : Int32)), .val (.int (0 : Int32))] [(.int (lcmpW x0 (0 : Int64)))])) _
      refine XS.ifNo X0.here hx rfl (hb hby d2_19) rfl ((if0 _ _).trans (teq ((lw_eq x0 (0 : Int64)).mpr hc19)).2) ?_
      show Steps p.tables e below (s₁.setTop (mkF m 22 #[.val (.ref a1), .val (.int (1 : Int32)), .val (.int (0 : Int32))] [])) _
      refine XS.iconst X0.here hx rfl (hb hby d2_22) ?_
      show Steps p.tables e below (s₁.setTop (mkF m 23 #[.val (.ref a1), .val (.int (1 : Int32)), .val (.int (0 : Int32))] [(.int (1 : Int32))])) _
      refine XS.goto X0.here hx rfl (pc0 := 23) (pc' := 27) rfl (hb hby d2_23) (by decide) (by decide) ?_
      show Steps p.tables e below (s₁.setTop (mkF m 27 #[.val (.ref a1), .val (.int (1 : Int32)), .val (.int (0 : Int32))] [(.int (1 : Int32))])) _
      refine XS.istoreN X0.here hx rfl (hb hby d2_27) rfl (l' := #[.val (.ref a1), .val (.int (1 : Int32)), .val (.int (0 : Int32))]) rfl ?_
      show Steps p.tables e below (s₁.setTop (mkF m 28 #[.val (.ref a1), .val (.int (1 : Int32)), .val (.int (0 : Int32))] [])) _
      refine XS.iinc X0.here hx rfl (hb hby d2_28) rfl (l' := #[.val (.ref a1), .val (.int (1 : Int32)), .val (.int (1 : Int32))]) rfl ?_
      show Steps p.tables e below (s₁.setTop (mkF m 31 #[.val (.ref a1), .val (.int (1 : Int32)), .val (.int (1 : Int32))] [])) _
      refine XS.goto X0.here hx rfl (pc0 := 31) (pc' := 4) rfl (hb hby d2_31) (by decide) (by decide) ?_
      show Steps p.tables e below (s₁.setTop (mkF m 4 #[.val (.ref a1), .val (.int (1 : Int32)), .val (.int (1 : Int32))] [])) _
      refine XS.iloadN X0.here hx rfl (hb hby d2_4) rfl ?_
      show Steps p.tables e below (s₁.setTop (mkF m 5 #[.val (.ref a1), .val (.int (1 : Int32)), .val (.int (1 : Int32))] [(.int (1 : Int32))])) _
      refine XS.aloadN X0.here hx rfl (hb hby d2_5) rfl rfl ?_
      show Steps p.tables e below (s₁.setTop (mkF m 6 #[.val (.ref a1), .val (.int (1 : Int32)), .val (.int (1 : Int32))] [(.ref a1), (.int (1 : Int32))])) _
      refine X0.arraylength hx (by first | exact Ar6_4.1 | (rw [e0]; exact Ar6_4.1)) (State.isArrayOf_alike hZ.alike Ar6_4.2.1) (g := (mkF m 6 #[.val (.ref a1), .val (.int (1 : Int32)), .val (.int (1 : Int32))] [(.ref a1), (.int (1 : Int32))])) rfl rfl (hb hby d2_6) _ ?_
      rw [len_of Sa6_4 Na6_4]
      show Steps p.tables e below (s₁.setTop (mkF m 7 #[.val (.ref a1), .val (.int (1 : Int32)), .val (.int (1 : Int32))] [(.int (2 : Int32)), (.int (1 : Int32))])) _
      refine XS.icmpNo X0.here hx rfl (hb hby d2_7) rfl (tlt (by decide)).2.1 ?_
      show Steps p.tables e below (s₁.setTop (mkF m 10 #[.val (.ref a1), .val (.int (1 : Int32)), .val (.int (1 : Int32))] [])) _
      refine XS.iloadN X0.here hx rfl (hb hby d2_10) rfl ?_
      show Steps p.tables e below (s₁.setTop (mkF m 11 #[.val (.ref a1), .val (.int (1 : Int32)), .val (.int (1 : Int32))] [(.int (1 : Int32))])) _
      refine XS.ifNo X0.here hx rfl (hb hby d2_11) rfl ((if0 _ _).trans (feq (by decide)).1) ?_
      show Steps p.tables e below (s₁.setTop (mkF m 14 #[.val (.ref a1), .val (.int (1 : Int32)), .val (.int (1 : Int32))] [])) _
      refine XS.aloadN X0.here hx rfl (hb hby d2_14) rfl rfl ?_
      show Steps p.tables e below (s₁.setTop (mkF m 15 #[.val (.ref a1), .val (.int (1 : Int32)), .val (.int (1 : Int32))] [(.ref a1)])) _
      refine XS.iloadN X0.here hx rfl (hb hby d2_15) rfl ?_
      show Steps p.tables e below (s₁.setTop (mkF m 16 #[.val (.ref a1), .val (.int (1 : Int32)), .val (.int (1 : Int32))] [(.int (1 : Int32)), (.ref a1)])) _
      refine X0.laload hx (j := (1 : Int32)) (v := (.long x1)) (by first | exact Ar16_5.1 | (rw [e0]; exact Ar16_5.1)) (State.isArrayOf_alike hZ.alike Ar16_5.2.1) Ar16_5.2.2 hin16_5 hat16_5 (g := (mkF m 16 #[.val (.ref a1), .val (.int (1 : Int32)), .val (.int (1 : Int32))] [(.int (1 : Int32)), (.ref a1)])) rfl rfl (hb hby d2_16) _ ?_
      show Steps p.tables e below (s₁.setTop (mkF m 17 #[.val (.ref a1), .val (.int (1 : Int32)), .val (.int (1 : Int32))] [(.long x1)])) _
      refine XS.lconst X0.here hx rfl (hb hby d2_17) ?_
      show Steps p.tables e below (s₁.setTop (mkF m 18 #[.val (.ref a1), .val (.int (1 : Int32)), .val (.int (1 : Int32))] [(.long (0 : Int64)), (.long x1)])) _
      refine XS.lcmp X0.here hx rfl (hb hby d2_18) rfl ?_
      exact kt
    by_cases hc19_2 : x1 = (0 : Int64)
    · have cp6_7 := V0
      obtain ⟨cl6_7, Ar6_7, -, Sa6_7, Na6_7, -, -⟩ := cp6_7
      obtain ⟨fs, hr, hrun, hended, hW, hsame⟩ := X0.leave (v := some (.int (1 : Int32))) (fun h => by rw [Bd.returns] at h; cases h)
      refine ⟨_, _, c6 _ ?_, hrun, hended, _, _, rfl, ?_, ⟨_, rfl⟩, hW, hsame.mono (by decide) (by decide)⟩
      · show Steps p.tables e below (s₁.setTop (mkF m 19 #[.val (.ref a1), .val (.int (1 : Int32)), .val (.int (1 : Int32))] [(.int (lcmpW x1 (0 : Int64)))])) _
        refine XS.ifNo X0.here hx rfl (hb hby d2_19) rfl ((if0 _ _).trans (teq ((lw_eq x1 (0 : Int64)).mpr hc19_2)).2) ?_
        show Steps p.tables e below (s₁.setTop (mkF m 22 #[.val (.ref a1), .val (.int (1 : Int32)), .val (.int (1 : Int32))] [])) _
        refine XS.iconst X0.here hx rfl (hb hby d2_22) ?_
        show Steps p.tables e below (s₁.setTop (mkF m 23 #[.val (.ref a1), .val (.int (1 : Int32)), .val (.int (1 : Int32))] [(.int (1 : Int32))])) _
        refine XS.goto X0.here hx rfl (pc0 := 23) (pc' := 27) rfl (hb hby d2_23) (by decide) (by decide) ?_
        show Steps p.tables e below (s₁.setTop (mkF m 27 #[.val (.ref a1), .val (.int (1 : Int32)), .val (.int (1 : Int32))] [(.int (1 : Int32))])) _
        refine XS.istoreN X0.here hx rfl (hb hby d2_27) rfl (l' := #[.val (.ref a1), .val (.int (1 : Int32)), .val (.int (1 : Int32))]) rfl ?_
        show Steps p.tables e below (s₁.setTop (mkF m 28 #[.val (.ref a1), .val (.int (1 : Int32)), .val (.int (1 : Int32))] [])) _
        refine XS.iinc X0.here hx rfl (hb hby d2_28) rfl (l' := #[.val (.ref a1), .val (.int (1 : Int32)), .val (.int (2 : Int32))]) rfl ?_
        show Steps p.tables e below (s₁.setTop (mkF m 31 #[.val (.ref a1), .val (.int (1 : Int32)), .val (.int (2 : Int32))] [])) _
        refine XS.goto X0.here hx rfl (pc0 := 31) (pc' := 4) rfl (hb hby d2_31) (by decide) (by decide) ?_
        show Steps p.tables e below (s₁.setTop (mkF m 4 #[.val (.ref a1), .val (.int (1 : Int32)), .val (.int (2 : Int32))] [])) _
        refine XS.iloadN X0.here hx rfl (hb hby d2_4) rfl ?_
        show Steps p.tables e below (s₁.setTop (mkF m 5 #[.val (.ref a1), .val (.int (1 : Int32)), .val (.int (2 : Int32))] [(.int (2 : Int32))])) _
        refine XS.aloadN X0.here hx rfl (hb hby d2_5) rfl rfl ?_
        show Steps p.tables e below (s₁.setTop (mkF m 6 #[.val (.ref a1), .val (.int (1 : Int32)), .val (.int (2 : Int32))] [(.ref a1), (.int (2 : Int32))])) _
        refine X0.arraylength hx (by first | exact Ar6_7.1 | (rw [e0]; exact Ar6_7.1)) (State.isArrayOf_alike hZ.alike Ar6_7.2.1) (g := (mkF m 6 #[.val (.ref a1), .val (.int (1 : Int32)), .val (.int (2 : Int32))] [(.ref a1), (.int (2 : Int32))])) rfl rfl (hb hby d2_6) _ ?_
        rw [len_of Sa6_7 Na6_7]
        show Steps p.tables e below (s₁.setTop (mkF m 7 #[.val (.ref a1), .val (.int (1 : Int32)), .val (.int (2 : Int32))] [(.int (2 : Int32)), (.int (2 : Int32))])) _
        refine XS.icmpYes X0.here hx rfl (pc0 := 7) (pc' := 34) rfl (hb hby d2_7) rfl (flt (by decide)).2.1 (by decide) (by decide) ?_
        show Steps p.tables e below (s₁.setTop (mkF m 34 #[.val (.ref a1), .val (.int (1 : Int32)), .val (.int (2 : Int32))] [])) _
        refine XS.iloadN X0.here hx rfl (hb hby d2_34) rfl ?_
        show Steps p.tables e below (s₁.setTop (mkF m 35 #[.val (.ref a1), .val (.int (1 : Int32)), .val (.int (2 : Int32))] [(.int (1 : Int32))])) _
        exact retN X0 hx (t := .boolean) Bd.returns (by simp) (hb hby d2_35) hr
      · show Q2n2 Z a1 kk x0 x1 h0 n0 _ s₁.heap _
        rw [e0]
        have hv : (own_nw2 x0 x1) = (1 : Int32) := by unfold own_nw2; rw [if_pos hc19, if_pos hc19_2]
        exact ⟨by rw [hv], N0, rfl⟩
    · have cp6_8 := V0
      obtain ⟨cl6_8, Ar6_8, -, Sa6_8, Na6_8, -, -⟩ := cp6_8
      obtain ⟨fs, hr, hrun, hended, hW, hsame⟩ := X0.leave (v := some (.int (0 : Int32))) (fun h => by rw [Bd.returns] at h; cases h)
      refine ⟨_, _, c6 _ ?_, hrun, hended, _, _, rfl, ?_, ⟨_, rfl⟩, hW, hsame.mono (by decide) (by decide)⟩
      · show Steps p.tables e below (s₁.setTop (mkF m 19 #[.val (.ref a1), .val (.int (1 : Int32)), .val (.int (1 : Int32))] [(.int (lcmpW x1 (0 : Int64)))])) _
        refine XS.ifYes X0.here hx rfl (pc0 := 19) (pc' := 26) rfl (hb hby d2_19) rfl ((if0 _ _).trans (feq (fun q => hc19_2 ((lw_eq x1 (0 : Int64)).mp q))).2) (by decide) (by decide) ?_
        show Steps p.tables e below (s₁.setTop (mkF m 26 #[.val (.ref a1), .val (.int (1 : Int32)), .val (.int (1 : Int32))] [])) _
        refine XS.iconst X0.here hx rfl (hb hby d2_26) ?_
        show Steps p.tables e below (s₁.setTop (mkF m 27 #[.val (.ref a1), .val (.int (1 : Int32)), .val (.int (1 : Int32))] [(.int (0 : Int32))])) _
        refine XS.istoreN X0.here hx rfl (hb hby d2_27) rfl (l' := #[.val (.ref a1), .val (.int (0 : Int32)), .val (.int (1 : Int32))]) rfl ?_
        show Steps p.tables e below (s₁.setTop (mkF m 28 #[.val (.ref a1), .val (.int (0 : Int32)), .val (.int (1 : Int32))] [])) _
        refine XS.iinc X0.here hx rfl (hb hby d2_28) rfl (l' := #[.val (.ref a1), .val (.int (0 : Int32)), .val (.int (2 : Int32))]) rfl ?_
        show Steps p.tables e below (s₁.setTop (mkF m 31 #[.val (.ref a1), .val (.int (0 : Int32)), .val (.int (2 : Int32))] [])) _
        refine XS.goto X0.here hx rfl (pc0 := 31) (pc' := 4) rfl (hb hby d2_31) (by decide) (by decide) ?_
        show Steps p.tables e below (s₁.setTop (mkF m 4 #[.val (.ref a1), .val (.int (0 : Int32)), .val (.int (2 : Int32))] [])) _
        refine XS.iloadN X0.here hx rfl (hb hby d2_4) rfl ?_
        show Steps p.tables e below (s₁.setTop (mkF m 5 #[.val (.ref a1), .val (.int (0 : Int32)), .val (.int (2 : Int32))] [(.int (2 : Int32))])) _
        refine XS.aloadN X0.here hx rfl (hb hby d2_5) rfl rfl ?_
        show Steps p.tables e below (s₁.setTop (mkF m 6 #[.val (.ref a1), .val (.int (0 : Int32)), .val (.int (2 : Int32))] [(.ref a1), (.int (2 : Int32))])) _
        refine X0.arraylength hx (by first | exact Ar6_8.1 | (rw [e0]; exact Ar6_8.1)) (State.isArrayOf_alike hZ.alike Ar6_8.2.1) (g := (mkF m 6 #[.val (.ref a1), .val (.int (0 : Int32)), .val (.int (2 : Int32))] [(.ref a1), (.int (2 : Int32))])) rfl rfl (hb hby d2_6) _ ?_
        rw [len_of Sa6_8 Na6_8]
        show Steps p.tables e below (s₁.setTop (mkF m 7 #[.val (.ref a1), .val (.int (0 : Int32)), .val (.int (2 : Int32))] [(.int (2 : Int32)), (.int (2 : Int32))])) _
        refine XS.icmpYes X0.here hx rfl (pc0 := 7) (pc' := 34) rfl (hb hby d2_7) rfl (flt (by decide)).2.1 (by decide) (by decide) ?_
        show Steps p.tables e below (s₁.setTop (mkF m 34 #[.val (.ref a1), .val (.int (0 : Int32)), .val (.int (2 : Int32))] [])) _
        refine XS.iloadN X0.here hx rfl (hb hby d2_34) rfl ?_
        show Steps p.tables e below (s₁.setTop (mkF m 35 #[.val (.ref a1), .val (.int (0 : Int32)), .val (.int (2 : Int32))] [(.int (0 : Int32))])) _
        exact retN X0 hx (t := .boolean) Bd.returns (by simp) (hb hby d2_35) hr
      · show Q2n2 Z a1 kk x0 x1 h0 n0 _ s₁.heap _
        rw [e0]
        have hv : (own_nw2 x0 x1) = (0 : Int32) := by unfold own_nw2; rw [if_pos hc19, if_neg hc19_2]
        exact ⟨by rw [hv], N0, rfl⟩
  · have cp6_9 := V0
    obtain ⟨cl6_9, Ar6_9, -, Sa6_9, Na6_9, -, -⟩ := cp6_9
    obtain ⟨fs, hr, hrun, hended, hW, hsame⟩ := X0.leave (v := some (.int (0 : Int32))) (fun h => by rw [Bd.returns] at h; cases h)
    refine ⟨_, _, c3 _ ?_, hrun, hended, _, _, rfl, ?_, ⟨_, rfl⟩, hW, hsame.mono (by decide) (by decide)⟩
    · show Steps p.tables e below (s₁.setTop (mkF m 19 #[.val (.ref a1), .val (.int (1 : Int32)), .val (.int (0 : Int32))] [(.int (lcmpW x0 (0 : Int64)))])) _
      refine XS.ifYes X0.here hx rfl (pc0 := 19) (pc' := 26) rfl (hb hby d2_19) rfl ((if0 _ _).trans (feq (fun q => hc19 ((lw_eq x0 (0 : Int64)).mp q))).2) (by decide) (by decide) ?_
      show Steps p.tables e below (s₁.setTop (mkF m 26 #[.val (.ref a1), .val (.int (1 : Int32)), .val (.int (0 : Int32))] [])) _
      refine XS.iconst X0.here hx rfl (hb hby d2_26) ?_
      show Steps p.tables e below (s₁.setTop (mkF m 27 #[.val (.ref a1), .val (.int (1 : Int32)), .val (.int (0 : Int32))] [(.int (0 : Int32))])) _
      refine XS.istoreN X0.here hx rfl (hb hby d2_27) rfl (l' := #[.val (.ref a1), .val (.int (0 : Int32)), .val (.int (0 : Int32))]) rfl ?_
      show Steps p.tables e below (s₁.setTop (mkF m 28 #[.val (.ref a1), .val (.int (0 : Int32)), .val (.int (0 : Int32))] [])) _
      refine XS.iinc X0.here hx rfl (hb hby d2_28) rfl (l' := #[.val (.ref a1), .val (.int (0 : Int32)), .val (.int (1 : Int32))]) rfl ?_
      show Steps p.tables e below (s₁.setTop (mkF m 31 #[.val (.ref a1), .val (.int (0 : Int32)), .val (.int (1 : Int32))] [])) _
      refine XS.goto X0.here hx rfl (pc0 := 31) (pc' := 4) rfl (hb hby d2_31) (by decide) (by decide) ?_
      show Steps p.tables e below (s₁.setTop (mkF m 4 #[.val (.ref a1), .val (.int (0 : Int32)), .val (.int (1 : Int32))] [])) _
      refine XS.iloadN X0.here hx rfl (hb hby d2_4) rfl ?_
      show Steps p.tables e below (s₁.setTop (mkF m 5 #[.val (.ref a1), .val (.int (0 : Int32)), .val (.int (1 : Int32))] [(.int (1 : Int32))])) _
      refine XS.aloadN X0.here hx rfl (hb hby d2_5) rfl rfl ?_
      show Steps p.tables e below (s₁.setTop (mkF m 6 #[.val (.ref a1), .val (.int (0 : Int32)), .val (.int (1 : Int32))] [(.ref a1), (.int (1 : Int32))])) _
      refine X0.arraylength hx (by first | exact Ar6_9.1 | (rw [e0]; exact Ar6_9.1)) (State.isArrayOf_alike hZ.alike Ar6_9.2.1) (g := (mkF m 6 #[.val (.ref a1), .val (.int (0 : Int32)), .val (.int (1 : Int32))] [(.ref a1), (.int (1 : Int32))])) rfl rfl (hb hby d2_6) _ ?_
      rw [len_of Sa6_9 Na6_9]
      show Steps p.tables e below (s₁.setTop (mkF m 7 #[.val (.ref a1), .val (.int (0 : Int32)), .val (.int (1 : Int32))] [(.int (2 : Int32)), (.int (1 : Int32))])) _
      refine XS.icmpNo X0.here hx rfl (hb hby d2_7) rfl (tlt (by decide)).2.1 ?_
      show Steps p.tables e below (s₁.setTop (mkF m 10 #[.val (.ref a1), .val (.int (0 : Int32)), .val (.int (1 : Int32))] [])) _
      refine XS.iloadN X0.here hx rfl (hb hby d2_10) rfl ?_
      show Steps p.tables e below (s₁.setTop (mkF m 11 #[.val (.ref a1), .val (.int (0 : Int32)), .val (.int (1 : Int32))] [(.int (0 : Int32))])) _
      refine XS.ifYes X0.here hx rfl (pc0 := 11) (pc' := 34) rfl (hb hby d2_11) rfl ((if0 _ _).trans (teq (by decide)).1) (by decide) (by decide) ?_
      show Steps p.tables e below (s₁.setTop (mkF m 34 #[.val (.ref a1), .val (.int (0 : Int32)), .val (.int (1 : Int32))] [])) _
      refine XS.iloadN X0.here hx rfl (hb hby d2_34) rfl ?_
      show Steps p.tables e below (s₁.setTop (mkF m 35 #[.val (.ref a1), .val (.int (0 : Int32)), .val (.int (1 : Int32))] [(.int (0 : Int32))])) _
      exact retN X0 hx (t := .boolean) Bd.returns (by simp) (hb hby d2_35) hr
    · show Q2n2 Z a1 kk x0 x1 h0 n0 _ s₁.heap _
      rw [e0]
      have hv : (own_nw2 x0 x1) = (0 : Int32) := by unfold own_nw2; rw [if_neg hc19]
      exact ⟨by rw [hv], N0, rfl⟩
theorem pn2n3 : plainName "com/example/vestline/vestline/ProRata" = true := by first | (simp [plainName, overriddenIn]; done) | decide +kernel
theorem ef2n3 (m : MethodId) (a1 : Addr) : entryFrame m #[(.ref a1)] 3 = mkF m 0 #[.val (.ref a1), .unset, .unset] [] := by first | (simp [entryFrame, mkF, argsToLocals, Value.category]; done) | rfl
def own_nw3 (x0 : Int64) (x1 : Int64) (x2 : Int64) : Int32 := (if x0 = (0 : Int64) then (if x1 = (0 : Int64) then (if x2 = (0 : Int64) then (1 : Int32) else (0 : Int32)) else (0 : Int32)) else (0 : Int32))
def Q2n3 (Z : State) (a1 : Addr) (kk : ClassId) (x0 : Int64) (x1 : Int64) (x2 : Int64) (h0 : Heap) (n0 : Nat) (v : Option Value) (h : Heap) (L : List Loc) : Prop := v = some (.int (own_nw3 x0 x1 x2)) ∧ Fr n0 L ∧ h = h0
set_option maxRecDepth 65536 in
set_option maxHeartbeats 40000000 in
theorem rm2n3 (l : Launch) (Z : State) (a0 : Array Value) (hw : ∀ d ∈ tables_1, d.before a0 Z = true) (ws : List Jvm.Cond) (a1 : Addr) (kk : ClassId) (x0 : Int64) (x1 : Int64) (x2 : Int64) (h0 : Heap) (n0 : Nat) (Z0 : n0 ≤ h0.size) (V0 : Arv Z h0 a1 kk .long (3 : Int32) [(.long x0), (.long x1), (.long x2)] (.long (0 : Int64))) :
    MetFree l (⟨"com/example/vestline/vestline/ProRata", "noWeight", "([J)Z"⟩ : MethodName) (head1 (Jvm.Cond.code (⟨"com/example/vestline/vestline/ProRata", "noWeight", "([J)Z"⟩ : MethodName) prog_53_method_3_code 3 (some .boolean) :: ws) ({ frames := 0, cells := 0, slots := 0, locals := 0 } : Room)) (fun a U => a = #[(.ref a1)] ∧ Z.Warmed39 U.vm ∧ U.heap = h0) (fun _ _ _ _ _ => True) (fun _ U o U' => ∃ v L, o = .returned v ∧ Q2n3 Z a1 kk x0 x1 x2 h0 n0 v U'.heap L ∧ FrameEnd U o U' L ({ frames := 0, cells := 0, slots := 0, locals := 0 } : Room).cells ({ frames := 0, cells := 0, slots := 0, locals := 0 } : Room).slots) := by
  refine MetFree.of_bodySF (plainFor_of_name pn2n3) hisR ?_
  intro p e s m args below meth c s₁ Bd hml0 hP hK
  obtain ⟨rfl, hZ, hh⟩ := hP
  have hx := Bd.exec
  have hby := Bd.bytes
  have hml : c.maxLocals = 3 := hml0
  have hown : s.vm.findClass "com/example/vestline/vestline/ProRata" = some m.cls := findClass_of_methodNamed Bd.named
  have hnm := (name_of_methodNamed Bd.named Bd.method).1
  have X0 : Stand p l e ({ frames := 0, cells := 0, slots := 0, locals := 0 } : Room) s m #[(.ref a1)] below meth c s₁ [] 0 0 := Stand.of_body Bd
  have e0 : s₁.heap = h0 := by rw [← hh, Bd.state]; rfl
  have N0 := Fr.nil n0
  have pre0 : ∀ t, Steps p.tables e below (s₁.setTop (mkF m 0 #[.val (.ref a1), .unset, .unset] [])) t → Steps p.tables e below (s₁.setTop (entryFrame m #[(.ref a1)] 3)) t := fun t k => castTop (ef2n3 m a1) k
  have cp6_1 := V0
  obtain ⟨cl6_1, Ar6_1, -, Sa6_1, Na6_1, -, -⟩ := cp6_1
  have cp16_2 := V0
  obtain ⟨cl16_2, Ar16_2, -, Sa16_2, Na16_2, Ha16_2, -⟩ := cp16_2
  have hin16_2 : ¬ ((0 : Int32) < 0 ∨ cl16_2.slots.size ≤ ((0 : Int32)).toNatClampNeg) := inb_of Sa16_2 ⟨by decide, by decide⟩
  have hat16_2 : cl16_2.slots[((0 : Int32)).toNatClampNeg]? = some (.long x0) := Ha16_2.at hin16_2 rfl
  have c3 : ∀ t, Steps p.tables e below (s₁.setTop (mkF m 19 #[.val (.ref a1), .val (.int (1 : Int32)), .val (.int (0 : Int32))] [(.int (lcmpW x0 (0 : Int64)))])) t → Steps p.tables e below (s₁.setTop (entryFrame m #[(.ref a1)] 3)) t := fun t kt => by
    refine pre0 _ ?_
    show Steps p.tables e below (s₁.setTop (mkF m 0 #[.val (.ref a1), .unset, .unset] [])) _
    refine XS.iconst X0.here hx rfl (hb hby d2_0) ?_
    show Steps p.tables e below (s₁.setTop (mkF m 1 #[.val (.ref a1), .unset, .unset] [(.int (1 : Int32))])) _
    refine XS.istoreN X0.here hx rfl (hb hby d2_1) rfl (l' := #[.val (.ref a1), .val (.int (1 : Int32)), .unset]) rfl ?_
    show Steps p.tables e below (s₁.setTop (mkF m 2 #[.val (.ref a1), .val (.int (1 : Int32)), .unset] [])) _
    refine XS.iconst X0.here hx rfl (hb hby d2_2) ?_
    show Steps p.tables e below (s₁.setTop (mkF m 3 #[.val (.ref a1), .val (.int (1 : Int32)), .unset] [(.int (0 : Int32))])) _
    refine XS.istoreN X0.here hx rfl (hb hby d2_3) rfl (l' := #[.val (.ref a1), .val (.int (1 : Int32)), .val (.int (0 : Int32))]) rfl ?_
    show Steps p.tables e below (s₁.setTop (mkF m 4 #[.val (.ref a1), .val (.int (1 : Int32)), .val (.int (0 : Int32))] [])) _
    refine XS.iloadN X0.here hx rfl (hb hby d2_4) rfl ?_
    show Steps p.tables e below (s₁.setTop (mkF m 5 #[.val (.ref a1), .val (.int (1 : Int32)), .val (.int (0 : Int32))] [(.int (0 : Int32))])) _
    refine XS.aloadN X0.here hx rfl (hb hby d2_5) rfl rfl ?_
    show Steps p.tables e below (s₁.setTop (mkF m 6 #[.val (.ref a1), .val (.int (1 : Int32)), .val (.int (0 : Int32))] [(.ref a1), (.int (0 : Int32))])) _
    refine X0.arraylength hx (by first | exact Ar6_1.1 | (rw [e0]; exact Ar6_1.1)) (State.isArrayOf_alike hZ.alike Ar6_1.2.1) (g := (mkF m 6 #[.val (.ref a1), .val (.int (1 : Int32)), .val (.int (0 : Int32))] [(.ref a1), (.int (0 : Int32))])) rfl rfl (hb hby d2_6) _ ?_
    rw [len_of Sa6_1 Na6_1]
    show Steps p.tables e below (s₁.setTop (mkF m 7 #[.val (.ref a1), .val (.int (1 : Int32)), .val (.int (0 : Int32))] [(.int (3 : Int32)), (.int (0 : Int32))])) _
    refine XS.icmpNo X0.here hx rfl (hb hby d2_7) rfl (tlt (by decide)).2.1 ?_
    show Steps p.tables e below (s₁.setTop (mkF m 10 #[.val (.ref a1), .val (.int (1 : Int32)), .val (.int (0 : Int32))] [])) _
    refine XS.iloadN X0.here hx rfl (hb hby d2_10) rfl ?_
    show Steps p.tables e below (s₁.setTop (mkF m 11 #[.val (.ref a1), .val (.int (1 : Int32)), .val (.int (0 : Int32))] [(.int (1 : Int32))])) _
    refine XS.ifNo X0.here hx rfl (hb hby d2_11) rfl ((if0 _ _).trans (feq (by decide)).1) ?_
    show Steps p.tables e below (s₁.setTop (mkF m 14 #[.val (.ref a1), .val (.int (1 : Int32)), .val (.int (0 : Int32))] [])) _
    refine XS.aloadN X0.here hx rfl (hb hby d2_14) rfl rfl ?_
    show Steps p.tables e below (s₁.setTop (mkF m 15 #[.val (.ref a1), .val (.int (1 : Int32)), .val (.int (0 : Int32))] [(.ref a1)])) _
    refine XS.iloadN X0.here hx rfl (hb hby d2_15) rfl ?_
    show Steps p.tables e below (s₁.setTop (mkF m 16 #[.val (.ref a1), .val (.int (1 : Int32)), .val (.int (0 : Int32))] [(.int (0 : Int32)), (.ref a1)])) _
    refine X0.laload hx (j := (0 : Int32)) (v := (.long x0)) (by first | exact Ar16_2.1 | (rw [e0]; exact Ar16_2.1)) (State.isArrayOf_alike hZ.alike Ar16_2.2.1) Ar16_2.2.2 hin16_2 hat16_2 (g := (mkF m 16 #[.val (.ref a1), .val (.int (1 : Int32)), .val (.int (0 : Int32))] [(.int (0 : Int32)), (.ref a1)])) rfl rfl (hb hby d2_16) _ ?_
    show Steps p.tables e below (s₁.setTop (mkF m 17 #[.val (.ref a1), .val (.int (1 : Int32)), .val (.int (0 : Int32))] [(.long x0)])) _
    refine XS.lconst X0.here hx rfl (hb hby d2_17) ?_
    show Steps p.tables e below (s₁.setTop (mkF m 18 #[.val (.ref a1), .val (.int (1 : Int32)), .val (.int (0 : Int32))] [(.long (0 : Int64)), (.long x0)])) _
    refine XS.lcmp X0.here hx rfl (hb hby d2_18) rfl ?_
    exact kt
  by_cases hc19 : x0 = (0 : Int64)
  · have cp6_4 := V0
    obtain ⟨cl6_4, Ar6_4, -, Sa6_4, Na6_4, -, -⟩ := cp6_4
    have cp16_5 := V0
    obtain ⟨cl16_5, Ar16_5, -, Sa16_5, Na16_5, Ha16_5, -⟩ := cp16_5
    have hin16_5 : ¬ ((1 : Int32) < 0 ∨ cl16_5.slots.size ≤ ((1 : Int32)).toNatClampNeg) := inb_of Sa16_5 ⟨by decide, by decide⟩
    have hat16_5 : cl16_5.slots[((1 : Int32)).toNatClampNeg]? = some (.long x1) := Ha16_5.at hin16_5 rfl
    have c6 : ∀ t, Steps p.tables e below (s₁.setTop (mkF m 19 #[.val (.ref a1), .val (.int (1 : Int32)), .val (.int (1 : Int32))] [(.int (lcmpW x1 (0 : Int64)))])) t → Steps p.tables e below (s₁.setTop (entryFrame m #[(.ref a1)] 3)) t := fun t kt => by
      refine c3 _ ?_
      show Steps p.tables e below (s₁.setTop (mkF m 19 #[.val (.ref a1), .val (.int (1 : Int32)), .val (.int (0 : Int32))] [(.int (lcmpW x0 (0 : Int64)))])) _
      refine XS.ifNo X0.here hx rfl (hb hby d2_19) rfl ((if0 _ _).trans (teq ((lw_eq x0 (0 : Int64)).mpr hc19)).2) ?_
      show Steps p.tables e below (s₁.setTop (mkF m 22 #[.val (.ref a1), .val (.int (1 : Int32)), .val (.int (0 : Int32))] [])) _
      refine XS.iconst X0.here hx rfl (hb hby d2_22) ?_
      show Steps p.tables e below (s₁.setTop (mkF m 23 #[.val (.ref a1), .val (.int (1 : Int32)), .val (.int (0 : Int32))] [(.int (1 : Int32))])) _
      refine XS.goto X0.here hx rfl (pc0 := 23) (pc' := 27) rfl (hb hby d2_23) (by decide) (by decide) ?_
      show Steps p.tables e below (s₁.setTop (mkF m 27 #[.val (.ref a1), .val (.int (1 : Int32)), .val (.int (0 : Int32))] [(.int (1 : Int32))])) _
      refine XS.istoreN X0.here hx rfl (hb hby d2_27) rfl (l' := #[.val (.ref a1), .val (.int (1 : Int32)), .val (.int (0 : Int32))]) rfl ?_
      show Steps p.tables e below (s₁.setTop (mkF m 28 #[.val (.ref a1), .val (.int (1 : Int32)), .val (.int (0 : Int32))] [])) _
      refine XS.iinc X0.here hx rfl (hb hby d2_28) rfl (l' := #[.val (.ref a1), .val (.int (1 : Int32)), .val (.int (1 : Int32))]) rfl ?_
      show Steps p.tables e below (s₁.setTop (mkF m 31 #[.val (.ref a1), .val (.int (1 : Int32)), .val (.int (1 : Int32))] [])) _
      refine XS.goto X0.here hx rfl (pc0 := 31) (pc' := 4) rfl (hb hby d2_31) (by decide) (by decide) ?_
      show Steps p.tables e below (s₁.setTop (mkF m 4 #[.val (.ref a1), .val (.int (1 : Int32)), .val (.int (1 : Int32))] [])) _
      refine XS.iloadN X0.here hx rfl (hb hby d2_4) rfl ?_
      show Steps p.tables e below (s₁.setTop (mkF m 5 #[.val (.ref a1), .val (.int (1 : Int32)), .val (.int (1 : Int32))] [(.int (1 : Int32))])) _
      refine XS.aloadN X0.here hx rfl (hb hby d2_5) rfl rfl ?_
      show Steps p.tables e below (s₁.setTop (mkF m 6 #[.val (.ref a1), .val (.int (1 : Int32)), .val (.int (1 : Int32))] [(.ref a1), (.int (1 : Int32))])) _
      refine X0.arraylength hx (by first | exact Ar6_4.1 | (rw [e0]; exact Ar6_4.1)) (State.isArrayOf_alike hZ.alike Ar6_4.2.1) (g := (mkF m 6 #[.val (.ref a1), .val (.int (1 : Int32)), .val (.int (1 : Int32))] [(.ref a1), (.int (1 : Int32))])) rfl rfl (hb hby d2_6) _ ?_
      rw [len_of Sa6_4 Na6_4]
      show Steps p.tables e below (s₁.setTop (mkF m 7 #[.val (.ref a1), .val (.int (1 : Int32)), .val (.int (1 : Int32))] [(.int (3 : Int32)), (.int (1 : Int32))])) _
      refine XS.icmpNo X0.here hx rfl (hb hby d2_7) rfl (tlt (by decide)).2.1 ?_
      show Steps p.tables e below (s₁.setTop (mkF m 10 #[.val (.ref a1), .val (.int (1 : Int32)), .val (.int (1 : Int32))] [])) _
      refine XS.iloadN X0.here hx rfl (hb hby d2_10) rfl ?_
      show Steps p.tables e below (s₁.setTop (mkF m 11 #[.val (.ref a1), .val (.int (1 : Int32)), .val (.int (1 : Int32))] [(.int (1 : Int32))])) _
      refine XS.ifNo X0.here hx rfl (hb hby d2_11) rfl ((if0 _ _).trans (feq (by decide)).1) ?_
      show Steps p.tables e below (s₁.setTop (mkF m 14 #[.val (.ref a1), .val (.int (1 : Int32)), .val (.int (1 : Int32))] [])) _
      refine XS.aloadN X0.here hx rfl (hb hby d2_14) rfl rfl ?_
      show Steps p.tables e below (s₁.setTop (mkF m 15 #[.val (.ref a1), .val (.int (1 : Int32)), .val (.int (1 : Int32))] [(.ref a1)])) _
      refine XS.iloadN X0.here hx rfl (hb hby d2_15) rfl ?_
      show Steps p.tables e below (s₁.setTop (mkF m 16 #[.val (.ref a1), .val (.int (1 : Int32)), .val (.int (1 : Int32))] [(.int (1 : Int32)), (.ref a1)])) _
      refine X0.laload hx (j := (1 : Int32)) (v := (.long x1)) (by first | exact Ar16_5.1 | (rw [e0]; exact Ar16_5.1)) (State.isArrayOf_alike hZ.alike Ar16_5.2.1) Ar16_5.2.2 hin16_5 hat16_5 (g := (mkF m 16 #[.val (.ref a1), .val (.int (1 : Int32)), .val (.int (1 : Int32))] [(.int (1 : Int32)), (.ref a1)])) rfl rfl (hb hby d2_16) _ ?_
      show Steps p.tables e below (s₁.setTop (mkF m 17 #[.val (.ref a1), .val (.int (1 : Int32)), .val (.int (1 : Int32))] [(.long x1)])) _
      refine XS.lconst X0.here hx rfl (hb hby d2_17) ?_
      show Steps p.tables e below (s₁.setTop (mkF m 18 #[.val (.ref a1), .val (.int (1 : Int32)), .val (.int (1 : Int32))] [(.long (0 : Int64)), (.long x1)])) _
      refine XS.lcmp X0.here hx rfl (hb hby d2_18) rfl ?_
      exact kt
    by_cases hc19_2 : x1 = (0 : Int64)
    · have cp6_7 := V0
      obtain ⟨cl6_7, Ar6_7, -, Sa6_7, Na6_7, -, -⟩ := cp6_7
      have cp16_8 := V0
      obtain ⟨cl16_8, Ar16_8, -, Sa16_8, Na16_8, Ha16_8, -⟩ := cp16_8
      have hin16_8 : ¬ ((2 : Int32) < 0 ∨ cl16_8.slots.size ≤ ((2 : Int32)).toNatClampNeg) := inb_of Sa16_8 ⟨by decide, by decide⟩
      have hat16_8 : cl16_8.slots[((2 : Int32)).toNatClampNeg]? = some (.long x2) := Ha16_8.at hin16_8 rfl
      have c9 : ∀ t, Steps p.tables e below (s₁.setTop (mkF m 19 #[.val (.ref a1), .val (.int (1 : Int32)), .val (.int (2 : Int32))] [(.int (lcmpW x2 (0 : Int64)))])) t → Steps p.tables e below (s₁.setTop (entryFrame m #[(.ref a1)] 3)) t := fun t kt => by
        refine c6 _ ?_
        show Steps p.tables e below (s₁.setTop (mkF m 19 #[.val (.ref a1), .val (.int (1 : Int32)), .val (.int (1 : Int32))] [(.int (lcmpW x1 (0 : Int64)))])) _
        refine XS.ifNo X0.here hx rfl (hb hby d2_19) rfl ((if0 _ _).trans (teq ((lw_eq x1 (0 : Int64)).mpr hc19_2)).2) ?_
        show Steps p.tables e below (s₁.setTop (mkF m 22 #[.val (.ref a1), .val (.int (1 : Int32)), .val (.int (1 : Int32))] [])) _
        refine XS.iconst X0.here hx rfl (hb hby d2_22) ?_
        show Steps p.tables e below (s₁.setTop (mkF m 23 #[.val (.ref a1), .val (.int (1 : Int32)), .val (.int (1 : Int32))] [(.int (1 : Int32))])) _
        refine XS.goto X0.here hx rfl (pc0 := 23) (pc' := 27) rfl (hb hby d2_23) (by decide) (by decide) ?_
        show Steps p.tables e below (s₁.setTop (mkF m 27 #[.val (.ref a1), .val (.int (1 : Int32)), .val (.int (1 : Int32))] [(.int (1 : Int32))])) _
        refine XS.istoreN X0.here hx rfl (hb hby d2_27) rfl (l' := #[.val (.ref a1), .val (.int (1 : Int32)), .val (.int (1 : Int32))]) rfl ?_
        show Steps p.tables e below (s₁.setTop (mkF m 28 #[.val (.ref a1), .val (.int (1 : Int32)), .val (.int (1 : Int32))] [])) _
        refine XS.iinc X0.here hx rfl (hb hby d2_28) rfl (l' := #[.val (.ref a1), .val (.int (1 : Int32)), .val (.int (2 : Int32))]) rfl ?_
        show Steps p.tables e below (s₁.setTop (mkF m 31 #[.val (.ref a1), .val (.int (1 : Int32)), .val (.int (2 : Int32))] [])) _
        refine XS.goto X0.here hx rfl (pc0 := 31) (pc' := 4) rfl (hb hby d2_31) (by decide) (by decide) ?_
        show Steps p.tables e below (s₁.setTop (mkF m 4 #[.val (.ref a1), .val (.int (1 : Int32)), .val (.int (2 : Int32))] [])) _
        refine XS.iloadN X0.here hx rfl (hb hby d2_4) rfl ?_
        show Steps p.tables e below (s₁.setTop (mkF m 5 #[.val (.ref a1), .val (.int (1 : Int32)), .val (.int (2 : Int32))] [(.int (2 : Int32))])) _
        refine XS.aloadN X0.here hx rfl (hb hby d2_5) rfl rfl ?_
        show Steps p.tables e below (s₁.setTop (mkF m 6 #[.val (.ref a1), .val (.int (1 : Int32)), .val (.int (2 : Int32))] [(.ref a1), (.int (2 : Int32))])) _
        refine X0.arraylength hx (by first | exact Ar6_7.1 | (rw [e0]; exact Ar6_7.1)) (State.isArrayOf_alike hZ.alike Ar6_7.2.1) (g := (mkF m 6 #[.val (.ref a1), .val (.int (1 : Int32)), .val (.int (2 : Int32))] [(.ref a1), (.int (2 : Int32))])) rfl rfl (hb hby d2_6) _ ?_
        rw [len_of Sa6_7 Na6_7]
        show Steps p.tables e below (s₁.setTop (mkF m 7 #[.val (.ref a1), .val (.int (1 : Int32)), .val (.int (2 : Int32))] [(.int (3 : Int32)), (.int (2 : Int32))])) _
        refine XS.icmpNo X0.here hx rfl (hb hby d2_7) rfl (tlt (by decide)).2.1 ?_
        show Steps p.tables e below (s₁.setTop (mkF m 10 #[.val (.ref a1), .val (.int (1 : Int32)), .val (.int (2 : Int32))] [])) _
        refine XS.iloadN X0.here hx rfl (hb hby d2_10) rfl ?_
        show Steps p.tables e below (s₁.setTop (mkF m 11 #[.val (.ref a1), .val (.int (1 : Int32)), .val (.int (2 : Int32))] [(.int (1 : Int32))])) _
        refine XS.ifNo X0.here hx rfl (hb hby d2_11) rfl ((if0 _ _).trans (feq (by decide)).1) ?_
        show Steps p.tables e below (s₁.setTop (mkF m 14 #[.val (.ref a1), .val (.int (1 : Int32)), .val (.int (2 : Int32))] [])) _
        refine XS.aloadN X0.here hx rfl (hb hby d2_14) rfl rfl ?_
        show Steps p.tables e below (s₁.setTop (mkF m 15 #[.val (.ref a1), .val (.int (1 : Int32)), .val (.int (2 : Int32))] [(.ref a1)])) _
        refine XS.iloadN X0.here hx rfl (hb hby d2_15) rfl ?_
        show Steps p.tables e below (s₁.setTop (mkF m 16 #[.val (.ref a1), .val (.int (1 : Int32)), .val (.int (2 : Int32))] [(.int (2 : Int32)), (.ref a1)])) _
        refine X0.laload hx (j := (2 : Int32)) (v := (.long x2)) (by first | exact Ar16_8.1 | (rw [e0]; exact Ar16_8.1)) (State.isArrayOf_alike hZ.alike Ar16_8.2.1) Ar16_8.2.2 hin16_8 hat16_8 (g := (mkF m 16 #[.val (.ref a1), .val (.int (1 : Int32)), .val (.int (2 : Int32))] [(.int (2 : Int32)), (.ref a1)])) rfl rfl (hb hby d2_16) _ ?_
        show Steps p.tables e below (s₁.setTop (mkF m 17 #[.val (.ref a1), .val (.int (1 : Int32)), .val (.int (2 : Int32))] [(.long x2)])) _
        refine XS.lconst X0.here hx rfl (hb hby d2_17) ?_
        show Steps p.tables e below (s₁.setTop (mkF m 18 #[.val (.ref a1), .val (.int (1 : Int32)), .val (.int (2 : Int32))] [(.long (0 : Int64)), (.long x2)])) _
        refine XS.lcmp X0.here hx rfl (hb hby d2_18) rfl ?_
        exact kt
      by_cases hc19_3 : x2 = (0 : Int64)
      · have cp6_10 := V0
        obtain ⟨cl6_10, Ar6_10, -, Sa6_10, Na6_10, -, -⟩ := cp6_10
        obtain ⟨fs, hr, hrun, hended, hW, hsame⟩ := X0.leave (v := some (.int (1 : Int32))) (fun h => by rw [Bd.returns] at h; cases h)
        refine ⟨_, _, c9 _ ?_, hrun, hended, _, _, rfl, ?_, ⟨_, rfl⟩, hW, hsame.mono (by decide) (by decide)⟩
        · show Steps p.tables e below (s₁.setTop (mkF m 19 #[.val (.ref a1), .val (.int (1 : Int32)), .val (.int (2 : Int32))] [(.int (lcmpW x2 (0 : Int64)))])) _
          refine XS.ifNo X0.here hx rfl (hb hby d2_19) rfl ((if0 _ _).trans (teq ((lw_eq x2 (0 : Int64)).mpr hc19_3)).2) ?_
          show Steps p.tables e below (s₁.setTop (mkF m 22 #[.val (.ref a1), .val (.int (1 : Int32)), .val (.int (2 : Int32))] [])) _
          refine XS.iconst X0.here hx rfl (hb hby d2_22) ?_
          show Steps p.tables e below (s₁.setTop (mkF m 23 #[.val (.ref a1), .val (.int (1 : Int32)), .val (.int (2 : Int32))] [(.int (1 : Int32))])) _
          refine XS.goto X0.here hx rfl (pc0 := 23) (pc' := 27) rfl (hb hby d2_23) (by decide) (by decide) ?_
          show Steps p.tables e below (s₁.setTop (mkF m 27 #[.val (.ref a1), .val (.int (1 : Int32)), .val (.int (2 : Int32))] [(.int (1 : Int32))])) _
          refine XS.istoreN X0.here hx rfl (hb hby d2_27) rfl (l' := #[.val (.ref a1), .val (.int (1 : Int32)), .val (.int (2 : Int32))]) rfl ?_
          show Steps p.tables e below (s₁.setTop (mkF m 28 #[.val (.ref a1), .val (.int (1 : Int32)), .val (.int (2 : Int32))] [])) _
          refine XS.iinc X0.here hx rfl (hb hby d2_28) rfl (l' := #[.val (.ref a1), .val (.int (1 : Int32)), .val (.int (3 : Int32))]) rfl ?_
          show Steps p.tables e below (s₁.setTop (mkF m 31 #[.val (.ref a1), .val (.int (1 : Int32)), .val (.int (3 : Int32))] [])) _
          refine XS.goto X0.here hx rfl (pc0 := 31) (pc' := 4) rfl (hb hby d2_31) (by decide) (by decide) ?_
          show Steps p.tables e below (s₁.setTop (mkF m 4 #[.val (.ref a1), .val (.int (1 : Int32)), .val (.int (3 : Int32))] [])) _
          refine XS.iloadN X0.here hx rfl (hb hby d2_4) rfl ?_
          show Steps p.tables e below (s₁.setTop (mkF m 5 #[.val (.ref a1), .val (.int (1 : Int32)), .val (.int (3 : Int32))] [(.int (3 : Int32))])) _
          refine XS.aloadN X0.here hx rfl (hb hby d2_5) rfl rfl ?_
          show Steps p.tables e below (s₁.setTop (mkF m 6 #[.val (.ref a1), .val (.int (1 : Int32)), .val (.int (3 : Int32))] [(.ref a1), (.int (3 : Int32))])) _
          refine X0.arraylength hx (by first | exact Ar6_10.1 | (rw [e0]; exact Ar6_10.1)) (State.isArrayOf_alike hZ.alike Ar6_10.2.1) (g := (mkF m 6 #[.val (.ref a1), .val (.int (1 : Int32)), .val (.int (3 : Int32))] [(.ref a1), (.int (3 : Int32))])) rfl rfl (hb hby d2_6) _ ?_
          rw [len_of Sa6_10 Na6_10]
          show Steps p.tables e below (s₁.setTop (mkF m 7 #[.val (.ref a1), .val (.int (1 : Int32)), .val (.int (3 : Int32))] [(.int (3 : Int32)), (.int (3 : Int32))])) _
          refine XS.icmpYes X0.here hx rfl (pc0 := 7) (pc' := 34) rfl (hb hby d2_7) rfl (flt (by decide)).2.1 (by decide) (by decide) ?_
          show Steps p.tables e below (s₁.setTop (mkF m 34 #[.val (.ref a1), .val (.int (1 : Int32)), .val (.int (3 : Int32))] [])) _
          refine XS.iloadN X0.here hx rfl (hb hby d2_34) rfl ?_
          show Steps p.tables e below (s₁.setTop (mkF m 35 #[.val (.ref a1), .val (.int (1 : Int32)), .val (.int (3 : Int32))] [(.int (1 : Int32))])) _
          exact retN X0 hx (t := .boolean) Bd.returns (by simp) (hb hby d2_35) hr
        · show Q2n3 Z a1 kk x0 x1 x2 h0 n0 _ s₁.heap _
          rw [e0]
          have hv : (own_nw3 x0 x1 x2) = (1 : Int32) := by unfold own_nw3; rw [if_pos hc19, if_pos hc19_2, if_pos hc19_3]
          exact ⟨by rw [hv], N0, rfl⟩
      · have cp6_11 := V0
        obtain ⟨cl6_11, Ar6_11, -, Sa6_11, Na6_11, -, -⟩ := cp6_11
        obtain ⟨fs, hr, hrun, hended, hW, hsame⟩ := X0.leave (v := some (.int (0 : Int32))) (fun h => by rw [Bd.returns] at h; cases h)
        refine ⟨_, _, c9 _ ?_, hrun, hended, _, _, rfl, ?_, ⟨_, rfl⟩, hW, hsame.mono (by decide) (by decide)⟩
        · show Steps p.tables e below (s₁.setTop (mkF m 19 #[.val (.ref a1), .val (.int (1 : Int32)), .val (.int (2 : Int32))] [(.int (lcmpW x2 (0 : Int64)))])) _
          refine XS.ifYes X0.here hx rfl (pc0 := 19) (pc' := 26) rfl (hb hby d2_19) rfl ((if0 _ _).trans (feq (fun q => hc19_3 ((lw_eq x2 (0 : Int64)).mp q))).2) (by decide) (by decide) ?_
          show Steps p.tables e below (s₁.setTop (mkF m 26 #[.val (.ref a1), .val (.int (1 : Int32)), .val (.int (2 : Int32))] [])) _
          refine XS.iconst X0.here hx rfl (hb hby d2_26) ?_
          show Steps p.tables e below (s₁.setTop (mkF m 27 #[.val (.ref a1), .val (.int (1 : Int32)), .val (.int (2 : Int32))] [(.int (0 : Int32))])) _
          refine XS.istoreN X0.here hx rfl (hb hby d2_27) rfl (l' := #[.val (.ref a1), .val (.int (0 : Int32)), .val (.int (2 : Int32))]) rfl ?_
          show Steps p.tables e below (s₁.setTop (mkF m 28 #[.val (.ref a1), .val (.int (0 : Int32)), .val (.int (2 : Int32))] [])) _
          refine XS.iinc X0.here hx rfl (hb hby d2_28) rfl (l' := #[.val (.ref a1), .val (.int (0 : Int32)), .val (.int (3 : Int32))]) rfl ?_
          show Steps p.tables e below (s₁.setTop (mkF m 31 #[.val (.ref a1), .val (.int (0 : Int32)), .val (.int (3 : Int32))] [])) _
          refine XS.goto X0.here hx rfl (pc0 := 31) (pc' := 4) rfl (hb hby d2_31) (by decide) (by decide) ?_
          show Steps p.tables e below (s₁.setTop (mkF m 4 #[.val (.ref a1), .val (.int (0 : Int32)), .val (.int (3 : Int32))] [])) _
          refine XS.iloadN X0.here hx rfl (hb hby d2_4) rfl ?_
          show Steps p.tables e below (s₁.setTop (mkF m 5 #[.val (.ref a1), .val (.int (0 : Int32)), .val (.int (3 : Int32))] [(.int (3 : Int32))])) _
          refine XS.aloadN X0.here hx rfl (hb hby d2_5) rfl rfl ?_
          show Steps p.tables e below (s₁.setTop (mkF m 6 #[.val (.ref a1), .val (.int (0 : Int32)), .val (.int (3 : Int32))] [(.ref a1), (.int (3 : Int32))])) _
          refine X0.arraylength hx (by first | exact Ar6_11.1 | (rw [e0]; exact Ar6_11.1)) (State.isArrayOf_alike hZ.alike Ar6_11.2.1) (g := (mkF m 6 #[.val (.ref a1), .val (.int (0 : Int32)), .val (.int (3 : Int32))] [(.ref a1), (.int (3 : Int32))])) rfl rfl (hb hby d2_6) _ ?_
          rw [len_of Sa6_11 Na6_11]
          show Steps p.tables e below (s₁.setTop (mkF m 7 #[.val (.ref a1), .val (.int (0 : Int32)), .val (.int (3 : Int32))] [(.int (3 : Int32)), (.int (3 : Int32))])) _
          refine XS.icmpYes X0.here hx rfl (pc0 := 7) (pc' := 34) rfl (hb hby d2_7) rfl (flt (by decide)).2.1 (by decide) (by decide) ?_
          show Steps p.tables e below (s₁.setTop (mkF m 34 #[.val (.ref a1), .val (.int (0 : Int32)), .val (.int (3 : Int32))] [])) _
          refine XS.iloadN X0.here hx rfl (hb hby d2_34) rfl ?_
          show Steps p.tables e below (s₁.setTop (mkF m 35 #[.val (.ref a1), .val (.int (0 : Int32)), .val (.int (3 : Int32))] [(.int (0 : Int32))])) _
          exact retN X0 hx (t := .boolean) Bd.returns (by simp) (hb hby d2_35) hr
        · show Q2n3 Z a1 kk x0 x1 x2 h0 n0 _ s₁.heap _
          rw [e0]
          have hv : (own_nw3 x0 x1 x2) = (0 : Int32) := by unfold own_nw3; rw [if_pos hc19, if_pos hc19_2, if_neg hc19_3]
          exact ⟨by rw [hv], N0, rfl⟩
    · have cp6_12 := V0
      obtain ⟨cl6_12, Ar6_12, -, Sa6_12, Na6_12, -, -⟩ := cp6_12
      obtain ⟨fs, hr, hrun, hended, hW, hsame⟩ := X0.leave (v := some (.int (0 : Int32))) (fun h => by rw [Bd.returns] at h; cases h)
      refine ⟨_, _, c6 _ ?_, hrun, hended, _, _, rfl, ?_, ⟨_, rfl⟩, hW, hsame.mono (by decide) (by decide)⟩
      · show Steps p.tables e below (s₁.setTop (mkF m 19 #[.val (.ref a1), .val (.int (1 : Int32)), .val (.int (1 : Int32))] [(.int (lcmpW x1 (0 : Int64)))])) _
        refine XS.ifYes X0.here hx rfl (pc0 := 19) (pc' := 26) rfl (hb hby d2_19) rfl ((if0 _ _).trans (feq (fun q => hc19_2 ((lw_eq x1 (0 : Int64)).mp q))).2) (by decide) (by decide) ?_
        show Steps p.tables e below (s₁.setTop (mkF m 26 #[.val (.ref a1), .val (.int (1 : Int32)), .val (.int (1 : Int32))] [])) _
        refine XS.iconst X0.here hx rfl (hb hby d2_26) ?_
        show Steps p.tables e below (s₁.setTop (mkF m 27 #[.val (.ref a1), .val (.int (1 : Int32)), .val (.int (1 : Int32))] [(.int (0 : Int32))])) _
        refine XS.istoreN X0.here hx rfl (hb hby d2_27) rfl (l' := #[.val (.ref a1), .val (.int (0 : Int32)), .val (.int (1 : Int32))]) rfl ?_
        show Steps p.tables e below (s₁.setTop (mkF m 28 #[.val (.ref a1), .val (.int (0 : Int32)), .val (.int (1 : Int32))] [])) _
        refine XS.iinc X0.here hx rfl (hb hby d2_28) rfl (l' := #[.val (.ref a1), .val (.int (0 : Int32)), .val (.int (2 : Int32))]) rfl ?_
        show Steps p.tables e below (s₁.setTop (mkF m 31 #[.val (.ref a1), .val (.int (0 : Int32)), .val (.int (2 : Int32))] [])) _
        refine XS.goto X0.here hx rfl (pc0 := 31) (pc' := 4) rfl (hb hby d2_31) (by decide) (by decide) ?_
        show Steps p.tables e below (s₁.setTop (mkF m 4 #[.val (.ref a1), .val (.int (0 : Int32)), .val (.int (2 : Int32))] [])) _
        refine XS.iloadN X0.here hx rfl (hb hby d2_4) rfl ?_
        show Steps p.tables e below (s₁.setTop (mkF m 5 #[.val (.ref a1), .val (.int (0 : Int32)), .val (.int (2 : Int32))] [(.int (2 : Int32))])) _
        refine XS.aloadN X0.here hx rfl (hb hby d2_5) rfl rfl ?_
        show Steps p.tables e below (s₁.setTop (mkF m 6 #[.val (.ref a1), .val (.int (0 : Int32)), .val (.int (2 : Int32))] [(.ref a1), (.int (2 : Int32))])) _
        refine X0.arraylength hx (by first | exact Ar6_12.1 | (rw [e0]; exact Ar6_12.1)) (State.isArrayOf_alike hZ.alike Ar6_12.2.1) (g := (mkF m 6 #[.val (.ref a1), .val (.int (0 : Int32)), .val (.int (2 : Int32))] [(.ref a1), (.int (2 : Int32))])) rfl rfl (hb hby d2_6) _ ?_
        rw [len_of Sa6_12 Na6_12]
        show Steps p.tables e below (s₁.setTop (mkF m 7 #[.val (.ref a1), .val (.int (0 : Int32)), .val (.int (2 : Int32))] [(.int (3 : Int32)), (.int (2 : Int32))])) _
        refine XS.icmpNo X0.here hx rfl (hb hby d2_7) rfl (tlt (by decide)).2.1 ?_
        show Steps p.tables e below (s₁.setTop (mkF m 10 #[.val (.ref a1), .val (.int (0 : Int32)), .val (.int (2 : Int32))] [])) _
        refine XS.iloadN X0.here hx rfl (hb hby d2_10) rfl ?_
        show Steps p.tables e below (s₁.setTop (mkF m 11 #[.val (.ref a1), .val (.int (0 : Int32)), .val (.int (2 : Int32))] [(.int (0 : Int32))])) _
        refine XS.ifYes X0.here hx rfl (pc0 := 11) (pc' := 34) rfl (hb hby d2_11) rfl ((if0 _ _).trans (teq (by decide)).1) (by decide) (by decide) ?_
        show Steps p.tables e below (s₁.setTop (mkF m 34 #[.val (.ref a1), .val (.int (0 : Int32)), .val (.int (2 : Int32))] [])) _
        refine XS.iloadN X0.here hx rfl (hb hby d2_34) rfl ?_
        show Steps p.tables e below (s₁.setTop (mkF m 35 #[.val (.ref a1), .val (.int (0 : Int32)), .val (.int (2 : Int32))] [(.int (0 : Int32))])) _
        exact retN X0 hx (t := .boolean) Bd.returns (by simp) (hb hby d2_35) hr
      · show Q2n3 Z a1 kk x0 x1 x2 h0 n0 _ s₁.heap _
        rw [e0]
        have hv : (own_nw3 x0 x1 x2) = (0 : Int32) := by unfold own_nw3; rw [if_pos hc19, if_neg hc19_2]
        exact ⟨by rw [hv], N0, rfl⟩
  · have cp6_13 := V0
    obtain ⟨cl6_13, Ar6_13, -, Sa6_13, Na6_13, -, -⟩ := cp6_13
    obtain ⟨fs, hr, hrun, hended, hW, hsame⟩ := X0.leave (v := some (.int (0 : Int32))) (fun h => by rw [Bd.returns] at h; cases h)
    refine ⟨_, _, c3 _ ?_, hrun, hended, _, _, rfl, ?_, ⟨_, rfl⟩, hW, hsame.mono (by decide) (by decide)⟩
    · show Steps p.tables e below (s₁.setTop (mkF m 19 #[.val (.ref a1), .val (.int (1 : Int32)), .val (.int (0 : Int32))] [(.int (lcmpW x0 (0 : Int64)))])) _
      refine XS.ifYes X0.here hx rfl (pc0 := 19) (pc' := 26) rfl (hb hby d2_19) rfl ((if0 _ _).trans (feq (fun q => hc19 ((lw_eq x0 (0 : Int64)).mp q))).2) (by decide) (by decide) ?_
      show Steps p.tables e below (s₁.setTop (mkF m 26 #[.val (.ref a1), .val (.int (1 : Int32)), .val (.int (0 : Int32))] [])) _
      refine XS.iconst X0.here hx rfl (hb hby d2_26) ?_
      show Steps p.tables e below (s₁.setTop (mkF m 27 #[.val (.ref a1), .val (.int (1 : Int32)), .val (.int (0 : Int32))] [(.int (0 : Int32))])) _
      refine XS.istoreN X0.here hx rfl (hb hby d2_27) rfl (l' := #[.val (.ref a1), .val (.int (0 : Int32)), .val (.int (0 : Int32))]) rfl ?_
      show Steps p.tables e below (s₁.setTop (mkF m 28 #[.val (.ref a1), .val (.int (0 : Int32)), .val (.int (0 : Int32))] [])) _
      refine XS.iinc X0.here hx rfl (hb hby d2_28) rfl (l' := #[.val (.ref a1), .val (.int (0 : Int32)), .val (.int (1 : Int32))]) rfl ?_
      show Steps p.tables e below (s₁.setTop (mkF m 31 #[.val (.ref a1), .val (.int (0 : Int32)), .val (.int (1 : Int32))] [])) _
      refine XS.goto X0.here hx rfl (pc0 := 31) (pc' := 4) rfl (hb hby d2_31) (by decide) (by decide) ?_
      show Steps p.tables e below (s₁.setTop (mkF m 4 #[.val (.ref a1), .val (.int (0 : Int32)), .val (.int (1 : Int32))] [])) _
      refine XS.iloadN X0.here hx rfl (hb hby d2_4) rfl ?_
      show Steps p.tables e below (s₁.setTop (mkF m 5 #[.val (.ref a1), .val (.int (0 : Int32)), .val (.int (1 : Int32))] [(.int (1 : Int32))])) _
      refine XS.aloadN X0.here hx rfl (hb hby d2_5) rfl rfl ?_
      show Steps p.tables e below (s₁.setTop (mkF m 6 #[.val (.ref a1), .val (.int (0 : Int32)), .val (.int (1 : Int32))] [(.ref a1), (.int (1 : Int32))])) _
      refine X0.arraylength hx (by first | exact Ar6_13.1 | (rw [e0]; exact Ar6_13.1)) (State.isArrayOf_alike hZ.alike Ar6_13.2.1) (g := (mkF m 6 #[.val (.ref a1), .val (.int (0 : Int32)), .val (.int (1 : Int32))] [(.ref a1), (.int (1 : Int32))])) rfl rfl (hb hby d2_6) _ ?_
      rw [len_of Sa6_13 Na6_13]
      show Steps p.tables e below (s₁.setTop (mkF m 7 #[.val (.ref a1), .val (.int (0 : Int32)), .val (.int (1 : Int32))] [(.int (3 : Int32)), (.int (1 : Int32))])) _
      refine XS.icmpNo X0.here hx rfl (hb hby d2_7) rfl (tlt (by decide)).2.1 ?_
      show Steps p.tables e below (s₁.setTop (mkF m 10 #[.val (.ref a1), .val (.int (0 : Int32)), .val (.int (1 : Int32))] [])) _
      refine XS.iloadN X0.here hx rfl (hb hby d2_10) rfl ?_
      show Steps p.tables e below (s₁.setTop (mkF m 11 #[.val (.ref a1), .val (.int (0 : Int32)), .val (.int (1 : Int32))] [(.int (0 : Int32))])) _
      refine XS.ifYes X0.here hx rfl (pc0 := 11) (pc' := 34) rfl (hb hby d2_11) rfl ((if0 _ _).trans (teq (by decide)).1) (by decide) (by decide) ?_
      show Steps p.tables e below (s₁.setTop (mkF m 34 #[.val (.ref a1), .val (.int (0 : Int32)), .val (.int (1 : Int32))] [])) _
      refine XS.iloadN X0.here hx rfl (hb hby d2_34) rfl ?_
      show Steps p.tables e below (s₁.setTop (mkF m 35 #[.val (.ref a1), .val (.int (0 : Int32)), .val (.int (1 : Int32))] [(.int (0 : Int32))])) _
      exact retN X0 hx (t := .boolean) Bd.returns (by simp) (hb hby d2_35) hr
    · show Q2n3 Z a1 kk x0 x1 x2 h0 n0 _ s₁.heap _
      rw [e0]
      have hv : (own_nw3 x0 x1 x2) = (0 : Int32) := by unfold own_nw3; rw [if_neg hc19]
      exact ⟨by rw [hv], N0, rfl⟩
theorem pn2n4 : plainName "com/example/vestline/vestline/ProRata" = true := by first | (simp [plainName, overriddenIn]; done) | decide +kernel
theorem ef2n4 (m : MethodId) (a1 : Addr) : entryFrame m #[(.ref a1)] 3 = mkF m 0 #[.val (.ref a1), .unset, .unset] [] := by first | (simp [entryFrame, mkF, argsToLocals, Value.category]; done) | rfl
def own_nw4 (x0 : Int64) (x1 : Int64) (x2 : Int64) (x3 : Int64) : Int32 := (if x0 = (0 : Int64) then (if x1 = (0 : Int64) then (if x2 = (0 : Int64) then (if x3 = (0 : Int64) then (1 : Int32) else (0 : Int32)) else (0 : Int32)) else (0 : Int32)) else (0 : Int32))
def Q2n4 (Z : State) (a1 : Addr) (kk : ClassId) (x0 : Int64) (x1 : Int64) (x2 : Int64) (x3 : Int64) (h0 : Heap) (n0 : Nat) (v : Option Value) (h : Heap) (L : List Loc) : Prop := v = some (.int (own_nw4 x0 x1 x2 x3)) ∧ Fr n0 L ∧ h = h0
set_option maxRecDepth 65536 in
set_option maxHeartbeats 40000000 in
theorem rm2n4 (l : Launch) (Z : State) (a0 : Array Value) (hw : ∀ d ∈ tables_1, d.before a0 Z = true) (ws : List Jvm.Cond) (a1 : Addr) (kk : ClassId) (x0 : Int64) (x1 : Int64) (x2 : Int64) (x3 : Int64) (h0 : Heap) (n0 : Nat) (Z0 : n0 ≤ h0.size) (V0 : Arv Z h0 a1 kk .long (4 : Int32) [(.long x0), (.long x1), (.long x2), (.long x3)] (.long (0 : Int64))) :
    MetFree l (⟨"com/example/vestline/vestline/ProRata", "noWeight", "([J)Z"⟩ : MethodName) (head1 (Jvm.Cond.code (⟨"com/example/vestline/vestline/ProRata", "noWeight", "([J)Z"⟩ : MethodName) prog_53_method_3_code 3 (some .boolean) :: ws) ({ frames := 0, cells := 0, slots := 0, locals := 0 } : Room)) (fun a U => a = #[(.ref a1)] ∧ Z.Warmed39 U.vm ∧ U.heap = h0) (fun _ _ _ _ _ => True) (fun _ U o U' => ∃ v L, o = .returned v ∧ Q2n4 Z a1 kk x0 x1 x2 x3 h0 n0 v U'.heap L ∧ FrameEnd U o U' L ({ frames := 0, cells := 0, slots := 0, locals := 0 } : Room).cells ({ frames := 0, cells := 0, slots := 0, locals := 0 } : Room).slots) := by
  refine MetFree.of_bodySF (plainFor_of_name pn2n4) hisR ?_
  intro p e s m args below meth c s₁ Bd hml0 hP hK
  obtain ⟨rfl, hZ, hh⟩ := hP
  have hx := Bd.exec
  have hby := Bd.bytes
  have hml : c.maxLocals = 3 := hml0
  have hown : s.vm.findClass "com/example/vestline/vestline/ProRata" = some m.cls := findClass_of_methodNamed Bd.named
  have hnm := (name_of_methodNamed Bd.named Bd.method).1
  have X0 : Stand p l e ({ frames := 0, cells := 0, slots := 0, locals := 0 } : Room) s m #[(.ref a1)] below meth c s₁ [] 0 0 := Stand.of_body Bd
  have e0 : s₁.heap = h0 := by rw [← hh, Bd.state]; rfl
  have N0 := Fr.nil n0
  have pre0 : ∀ t, Steps p.tables e below (s₁.setTop (mkF m 0 #[.val (.ref a1), .unset, .unset] [])) t → Steps p.tables e below (s₁.setTop (entryFrame m #[(.ref a1)] 3)) t := fun t k => castTop (ef2n4 m a1) k
  have cp6_1 := V0
  obtain ⟨cl6_1, Ar6_1, -, Sa6_1, Na6_1, -, -⟩ := cp6_1
  have cp16_2 := V0
  obtain ⟨cl16_2, Ar16_2, -, Sa16_2, Na16_2, Ha16_2, -⟩ := cp16_2
  have hin16_2 : ¬ ((0 : Int32) < 0 ∨ cl16_2.slots.size ≤ ((0 : Int32)).toNatClampNeg) := inb_of Sa16_2 ⟨by decide, by decide⟩
  have hat16_2 : cl16_2.slots[((0 : Int32)).toNatClampNeg]? = some (.long x0) := Ha16_2.at hin16_2 rfl
  have c3 : ∀ t, Steps p.tables e below (s₁.setTop (mkF m 19 #[.val (.ref a1), .val (.int (1 : Int32)), .val (.int (0 : Int32))] [(.int (lcmpW x0 (0 : Int64)))])) t → Steps p.tables e below (s₁.setTop (entryFrame m #[(.ref a1)] 3)) t := fun t kt => by
    refine pre0 _ ?_
    show Steps p.tables e below (s₁.setTop (mkF m 0 #[.val (.ref a1), .unset, .unset] [])) _
    refine XS.iconst X0.here hx rfl (hb hby d2_0) ?_
    show Steps p.tables e below (s₁.setTop (mkF m 1 #[.val (.ref a1), .unset, .unset] [(.int (1 : Int32))])) _
    refine XS.istoreN X0.here hx rfl (hb hby d2_1) rfl (l' := #[.val (.ref a1), .val (.int (1 : Int32)), .unset]) rfl ?_
    show Steps p.tables e below (s₁.setTop (mkF m 2 #[.val (.ref a1), .val (.int (1 : Int32)), .unset] [])) _
    refine XS.iconst X0.here hx rfl (hb hby d2_2) ?_
    show Steps p.tables e below (s₁.setTop (mkF m 3 #[.val (.ref a1), .val (.int (1 : Int32)), .unset] [(.int (0 : Int32))])) _
    refine XS.istoreN X0.here hx rfl (hb hby d2_3) rfl (l' := #[.val (.ref a1), .val (.int (1 : Int32)), .val (.int (0 : Int32))]) rfl ?_
    show Steps p.tables e below (s₁.setTop (mkF m 4 #[.val (.ref a1), .val (.int (1 : Int32)), .val (.int (0 : Int32))] [])) _
    refine XS.iloadN X0.here hx rfl (hb hby d2_4) rfl ?_
    show Steps p.tables e below (s₁.setTop (mkF m 5 #[.val (.ref a1), .val (.int (1 : Int32)), .val (.int (0 : Int32))] [(.int (0 : Int32))])) _
    refine XS.aloadN X0.here hx rfl (hb hby d2_5) rfl rfl ?_
    show Steps p.tables e below (s₁.setTop (mkF m 6 #[.val (.ref a1), .val (.int (1 : Int32)), .val (.int (0 : Int32))] [(.ref a1), (.int (0 : Int32))])) _
    refine X0.arraylength hx (by first | exact Ar6_1.1 | (rw [e0]; exact Ar6_1.1)) (State.isArrayOf_alike hZ.alike Ar6_1.2.1) (g := (mkF m 6 #[.val (.ref a1), .val (.int (1 : Int32)), .val (.int (0 : Int32))] [(.ref a1), (.int (0 : Int32))])) rfl rfl (hb hby d2_6) _ ?_
    rw [len_of Sa6_1 Na6_1]
    show Steps p.tables e below (s₁.setTop (mkF m 7 #[.val (.ref a1), .val (.int (1 : Int32)), .val (.int (0 : Int32))] [(.int (4 : Int32)), (.int (0 : Int32))])) _
    refine XS.icmpNo X0.here hx rfl (hb hby d2_7) rfl (tlt (by decide)).2.1 ?_
    show Steps p.tables e below (s₁.setTop (mkF m 10 #[.val (.ref a1), .val (.int (1 : Int32)), .val (.int (0 : Int32))] [])) _
    refine XS.iloadN X0.here hx rfl (hb hby d2_10) rfl ?_
    show Steps p.tables e below (s₁.setTop (mkF m 11 #[.val (.ref a1), .val (.int (1 : Int32)), .val (.int (0 : Int32))] [(.int (1 : Int32))])) _
    refine XS.ifNo X0.here hx rfl (hb hby d2_11) rfl ((if0 _ _).trans (feq (by decide)).1) ?_
    show Steps p.tables e below (s₁.setTop (mkF m 14 #[.val (.ref a1), .val (.int (1 : Int32)), .val (.int (0 : Int32))] [])) _
    refine XS.aloadN X0.here hx rfl (hb hby d2_14) rfl rfl ?_
    show Steps p.tables e below (s₁.setTop (mkF m 15 #[.val (.ref a1), .val (.int (1 : Int32)), .val (.int (0 : Int32))] [(.ref a1)])) _
    refine XS.iloadN X0.here hx rfl (hb hby d2_15) rfl ?_
    show Steps p.tables e below (s₁.setTop (mkF m 16 #[.val (.ref a1), .val (.int (1 : Int32)), .val (.int (0 : Int32))] [(.int (0 : Int32)), (.ref a1)])) _
    refine X0.laload hx (j := (0 : Int32)) (v := (.long x0)) (by first | exact Ar16_2.1 | (rw [e0]; exact Ar16_2.1)) (State.isArrayOf_alike hZ.alike Ar16_2.2.1) Ar16_2.2.2 hin16_2 hat16_2 (g := (mkF m 16 #[.val (.ref a1), .val (.int (1 : Int32)), .val (.int (0 : Int32))] [(.int (0 : Int32)), (.ref a1)])) rfl rfl (hb hby d2_16) _ ?_
    show Steps p.tables e below (s₁.setTop (mkF m 17 #[.val (.ref a1), .val (.int (1 : Int32)), .val (.int (0 : Int32))] [(.long x0)])) _
    refine XS.lconst X0.here hx rfl (hb hby d2_17) ?_
    show Steps p.tables e below (s₁.setTop (mkF m 18 #[.val (.ref a1), .val (.int (1 : Int32)), .val (.int (0 : Int32))] [(.long (0 : Int64)), (.long x0)])) _
    refine XS.lcmp X0.here hx rfl (hb hby d2_18) rfl ?_
    exact kt
  by_cases hc19 : x0 = (0 : Int64)
  · have cp6_4 := V0
    obtain ⟨cl6_4, Ar6_4, -, Sa6_4, Na6_4, -, -⟩ := cp6_4
    have cp16_5 := V0
    obtain ⟨cl16_5, Ar16_5, -, Sa16_5, Na16_5, Ha16_5, -⟩ := cp16_5
    have hin16_5 : ¬ ((1 : Int32) < 0 ∨ cl16_5.slots.size ≤ ((1 : Int32)).toNatClampNeg) := inb_of Sa16_5 ⟨by decide, by decide⟩
    have hat16_5 : cl16_5.slots[((1 : Int32)).toNatClampNeg]? = some (.long x1) := Ha16_5.at hin16_5 rfl
    have c6 : ∀ t, Steps p.tables e below (s₁.setTop (mkF m 19 #[.val (.ref a1), .val (.int (1 : Int32)), .val (.int (1 : Int32))] [(.int (lcmpW x1 (0 : Int64)))])) t → Steps p.tables e below (s₁.setTop (entryFrame m #[(.ref a1)] 3)) t := fun t kt => by
      refine c3 _ ?_
      show Steps p.tables e below (s₁.setTop (mkF m 19 #[.val (.ref a1), .val (.int (1 : Int32)), .val (.int (0 : Int32))] [(.int (lcmpW x0 (0 : Int64)))])) _
      refine XS.ifNo X0.here hx rfl (hb hby d2_19) rfl ((if0 _ _).trans (teq ((lw_eq x0 (0 : Int64)).mpr hc19)).2) ?_
      show Steps p.tables e below (s₁.setTop (mkF m 22 #[.val (.ref a1), .val (.int (1 : Int32)), .val (.int (0 : Int32))] [])) _
      refine XS.iconst X0.here hx rfl (hb hby d2_22) ?_
      show Steps p.tables e below (s₁.setTop (mkF m 23 #[.val (.ref a1), .val (.int (1 : Int32)), .val (.int (0 : Int32))] [(.int (1 : Int32))])) _
      refine XS.goto X0.here hx rfl (pc0 := 23) (pc' := 27) rfl (hb hby d2_23) (by decide) (by decide) ?_
      show Steps p.tables e below (s₁.setTop (mkF m 27 #[.val (.ref a1), .val (.int (1 : Int32)), .val (.int (0 : Int32))] [(.int (1 : Int32))])) _
      refine XS.istoreN X0.here hx rfl (hb hby d2_27) rfl (l' := #[.val (.ref a1), .val (.int (1 : Int32)), .val (.int (0 : Int32))]) rfl ?_
      show Steps p.tables e below (s₁.setTop (mkF m 28 #[.val (.ref a1), .val (.int (1 : Int32)), .val (.int (0 : Int32))] [])) _
      refine XS.iinc X0.here hx rfl (hb hby d2_28) rfl (l' := #[.val (.ref a1), .val (.int (1 : Int32)), .val (.int (1 : Int32))]) rfl ?_
      show Steps p.tables e below (s₁.setTop (mkF m 31 #[.val (.ref a1), .val (.int (1 : Int32)), .val (.int (1 : Int32))] [])) _
      refine XS.goto X0.here hx rfl (pc0 := 31) (pc' := 4) rfl (hb hby d2_31) (by decide) (by decide) ?_
      show Steps p.tables e below (s₁.setTop (mkF m 4 #[.val (.ref a1), .val (.int (1 : Int32)), .val (.int (1 : Int32))] [])) _
      refine XS.iloadN X0.here hx rfl (hb hby d2_4) rfl ?_
      show Steps p.tables e below (s₁.setTop (mkF m 5 #[.val (.ref a1), .val (.int (1 : Int32)), .val (.int (1 : Int32))] [(.int (1 : Int32))])) _
      refine XS.aloadN X0.here hx rfl (hb hby d2_5) rfl rfl ?_
      show Steps p.tables e below (s₁.setTop (mkF m 6 #[.val (.ref a1), .val (.int (1 : Int32)), .val (.int (1 : Int32))] [(.ref a1), (.int (1 : Int32))])) _
      refine X0.arraylength hx (by first | exact Ar6_4.1 | (rw [e0]; exact Ar6_4.1)) (State.isArrayOf_alike hZ.alike Ar6_4.2.1) (g := (mkF m 6 #[.val (.ref a1), .val (.int (1 : Int32)), .val (.int (1 : Int32))] [(.ref a1), (.int (1 : Int32))])) rfl rfl (hb hby d2_6) _ ?_
      rw [len_of Sa6_4 Na6_4]
      show Steps p.tables e below (s₁.setTop (mkF m 7 #[.val (.ref a1), .val (.int (1 : Int32)), .val (.int (1 : Int32))] [(.int (4 : Int32)), (.int (1 : Int32))])) _
      refine XS.icmpNo X0.here hx rfl (hb hby d2_7) rfl (tlt (by decide)).2.1 ?_
      show Steps p.tables e below (s₁.setTop (mkF m 10 #[.val (.ref a1), .val (.int (1 : Int32)), .val (.int (1 : Int32))] [])) _
      refine XS.iloadN X0.here hx rfl (hb hby d2_10) rfl ?_
      show Steps p.tables e below (s₁.setTop (mkF m 11 #[.val (.ref a1), .val (.int (1 : Int32)), .val (.int (1 : Int32))] [(.int (1 : Int32))])) _
      refine XS.ifNo X0.here hx rfl (hb hby d2_11) rfl ((if0 _ _).trans (feq (by decide)).1) ?_
      show Steps p.tables e below (s₁.setTop (mkF m 14 #[.val (.ref a1), .val (.int (1 : Int32)), .val (.int (1 : Int32))] [])) _
      refine XS.aloadN X0.here hx rfl (hb hby d2_14) rfl rfl ?_
      show Steps p.tables e below (s₁.setTop (mkF m 15 #[.val (.ref a1), .val (.int (1 : Int32)), .val (.int (1 : Int32))] [(.ref a1)])) _
      refine XS.iloadN X0.here hx rfl (hb hby d2_15) rfl ?_
      show Steps p.tables e below (s₁.setTop (mkF m 16 #[.val (.ref a1), .val (.int (1 : Int32)), .val (.int (1 : Int32))] [(.int (1 : Int32)), (.ref a1)])) _
      refine X0.laload hx (j := (1 : Int32)) (v := (.long x1)) (by first | exact Ar16_5.1 | (rw [e0]; exact Ar16_5.1)) (State.isArrayOf_alike hZ.alike Ar16_5.2.1) Ar16_5.2.2 hin16_5 hat16_5 (g := (mkF m 16 #[.val (.ref a1), .val (.int (1 : Int32)), .val (.int (1 : Int32))] [(.int (1 : Int32)), (.ref a1)])) rfl rfl (hb hby d2_16) _ ?_
      show Steps p.tables e below (s₁.setTop (mkF m 17 #[.val (.ref a1), .val (.int (1 : Int32)), .val (.int (1 : Int32))] [(.long x1)])) _
      refine XS.lconst X0.here hx rfl (hb hby d2_17) ?_
      show Steps p.tables e below (s₁.setTop (mkF m 18 #[.val (.ref a1), .val (.int (1 : Int32)), .val (.int (1 : Int32))] [(.long (0 : Int64)), (.long x1)])) _
      refine XS.lcmp X0.here hx rfl (hb hby d2_18) rfl ?_
      exact kt
    by_cases hc19_2 : x1 = (0 : Int64)
    · have cp6_7 := V0
      obtain ⟨cl6_7, Ar6_7, -, Sa6_7, Na6_7, -, -⟩ := cp6_7
      have cp16_8 := V0
      obtain ⟨cl16_8, Ar16_8, -, Sa16_8, Na16_8, Ha16_8, -⟩ := cp16_8
      have hin16_8 : ¬ ((2 : Int32) < 0 ∨ cl16_8.slots.size ≤ ((2 : Int32)).toNatClampNeg) := inb_of Sa16_8 ⟨by decide, by decide⟩
      have hat16_8 : cl16_8.slots[((2 : Int32)).toNatClampNeg]? = some (.long x2) := Ha16_8.at hin16_8 rfl
      have c9 : ∀ t, Steps p.tables e below (s₁.setTop (mkF m 19 #[.val (.ref a1), .val (.int (1 : Int32)), .val (.int (2 : Int32))] [(.int (lcmpW x2 (0 : Int64)))])) t → Steps p.tables e below (s₁.setTop (entryFrame m #[(.ref a1)] 3)) t := fun t kt => by
        refine c6 _ ?_
        show Steps p.tables e below (s₁.setTop (mkF m 19 #[.val (.ref a1), .val (.int (1 : Int32)), .val (.int (1 : Int32))] [(.int (lcmpW x1 (0 : Int64)))])) _
        refine XS.ifNo X0.here hx rfl (hb hby d2_19) rfl ((if0 _ _).trans (teq ((lw_eq x1 (0 : Int64)).mpr hc19_2)).2) ?_
        show Steps p.tables e below (s₁.setTop (mkF m 22 #[.val (.ref a1), .val (.int (1 : Int32)), .val (.int (1 : Int32))] [])) _
        refine XS.iconst X0.here hx rfl (hb hby d2_22) ?_
        show Steps p.tables e below (s₁.setTop (mkF m 23 #[.val (.ref a1), .val (.int (1 : Int32)), .val (.int (1 : Int32))] [(.int (1 : Int32))])) _
        refine XS.goto X0.here hx rfl (pc0 := 23) (pc' := 27) rfl (hb hby d2_23) (by decide) (by decide) ?_
        show Steps p.tables e below (s₁.setTop (mkF m 27 #[.val (.ref a1), .val (.int (1 : Int32)), .val (.int (1 : Int32))] [(.int (1 : Int32))])) _
        refine XS.istoreN X0.here hx rfl (hb hby d2_27) rfl (l' := #[.val (.ref a1), .val (.int (1 : Int32)), .val (.int (1 : Int32))]) rfl ?_
        show Steps p.tables e below (s₁.setTop (mkF m 28 #[.val (.ref a1), .val (.int (1 : Int32)), .val (.int (1 : Int32))] [])) _
        refine XS.iinc X0.here hx rfl (hb hby d2_28) rfl (l' := #[.val (.ref a1), .val (.int (1 : Int32)), .val (.int (2 : Int32))]) rfl ?_
        show Steps p.tables e below (s₁.setTop (mkF m 31 #[.val (.ref a1), .val (.int (1 : Int32)), .val (.int (2 : Int32))] [])) _
        refine XS.goto X0.here hx rfl (pc0 := 31) (pc' := 4) rfl (hb hby d2_31) (by decide) (by decide) ?_
        show Steps p.tables e below (s₁.setTop (mkF m 4 #[.val (.ref a1), .val (.int (1 : Int32)), .val (.int (2 : Int32))] [])) _
        refine XS.iloadN X0.here hx rfl (hb hby d2_4) rfl ?_
        show Steps p.tables e below (s₁.setTop (mkF m 5 #[.val (.ref a1), .val (.int (1 : Int32)), .val (.int (2 : Int32))] [(.int (2 : Int32))])) _
        refine XS.aloadN X0.here hx rfl (hb hby d2_5) rfl rfl ?_
        show Steps p.tables e below (s₁.setTop (mkF m 6 #[.val (.ref a1), .val (.int (1 : Int32)), .val (.int (2 : Int32))] [(.ref a1), (.int (2 : Int32))])) _
        refine X0.arraylength hx (by first | exact Ar6_7.1 | (rw [e0]; exact Ar6_7.1)) (State.isArrayOf_alike hZ.alike Ar6_7.2.1) (g := (mkF m 6 #[.val (.ref a1), .val (.int (1 : Int32)), .val (.int (2 : Int32))] [(.ref a1), (.int (2 : Int32))])) rfl rfl (hb hby d2_6) _ ?_
        rw [len_of Sa6_7 Na6_7]
        show Steps p.tables e below (s₁.setTop (mkF m 7 #[.val (.ref a1), .val (.int (1 : Int32)), .val (.int (2 : Int32))] [(.int (4 : Int32)), (.int (2 : Int32))])) _
        refine XS.icmpNo X0.here hx rfl (hb hby d2_7) rfl (tlt (by decide)).2.1 ?_
        show Steps p.tables e below (s₁.setTop (mkF m 10 #[.val (.ref a1), .val (.int (1 : Int32)), .val (.int (2 : Int32))] [])) _
        refine XS.iloadN X0.here hx rfl (hb hby d2_10) rfl ?_
        show Steps p.tables e below (s₁.setTop (mkF m 11 #[.val (.ref a1), .val (.int (1 : Int32)), .val (.int (2 : Int32))] [(.int (1 : Int32))])) _
        refine XS.ifNo X0.here hx rfl (hb hby d2_11) rfl ((if0 _ _).trans (feq (by decide)).1) ?_
        show Steps p.tables e below (s₁.setTop (mkF m 14 #[.val (.ref a1), .val (.int (1 : Int32)), .val (.int (2 : Int32))] [])) _
        refine XS.aloadN X0.here hx rfl (hb hby d2_14) rfl rfl ?_
        show Steps p.tables e below (s₁.setTop (mkF m 15 #[.val (.ref a1), .val (.int (1 : Int32)), .val (.int (2 : Int32))] [(.ref a1)])) _
        refine XS.iloadN X0.here hx rfl (hb hby d2_15) rfl ?_
        show Steps p.tables e below (s₁.setTop (mkF m 16 #[.val (.ref a1), .val (.int (1 : Int32)), .val (.int (2 : Int32))] [(.int (2 : Int32)), (.ref a1)])) _
        refine X0.laload hx (j := (2 : Int32)) (v := (.long x2)) (by first | exact Ar16_8.1 | (rw [e0]; exact Ar16_8.1)) (State.isArrayOf_alike hZ.alike Ar16_8.2.1) Ar16_8.2.2 hin16_8 hat16_8 (g := (mkF m 16 #[.val (.ref a1), .val (.int (1 : Int32)), .val (.int (2 : Int32))] [(.int (2 : Int32)), (.ref a1)])) rfl rfl (hb hby d2_16) _ ?_
        show Steps p.tables e below (s₁.setTop (mkF m 17 #[.val (.ref a1), .val (.int (1 : Int32)), .val (.int (2 : Int32))] [(.long x2)])) _
        refine XS.lconst X0.here hx rfl (hb hby d2_17) ?_
        show Steps p.tables e below (s₁.setTop (mkF m 18 #[.val (.ref a1), .val (.int (1 : Int32)), .val (.int (2 : Int32))] [(.long (0 : Int64)), (.long x2)])) _
        refine XS.lcmp X0.here hx rfl (hb hby d2_18) rfl ?_
        exact kt
      by_cases hc19_3 : x2 = (0 : Int64)
      · have cp6_10 := V0
        obtain ⟨cl6_10, Ar6_10, -, Sa6_10, Na6_10, -, -⟩ := cp6_10
        have cp16_11 := V0
        obtain ⟨cl16_11, Ar16_11, -, Sa16_11, Na16_11, Ha16_11, -⟩ := cp16_11
        have hin16_11 : ¬ ((3 : Int32) < 0 ∨ cl16_11.slots.size ≤ ((3 : Int32)).toNatClampNeg) := inb_of Sa16_11 ⟨by decide, by decide⟩
        have hat16_11 : cl16_11.slots[((3 : Int32)).toNatClampNeg]? = some (.long x3) := Ha16_11.at hin16_11 rfl
        have c12 : ∀ t, Steps p.tables e below (s₁.setTop (mkF m 19 #[.val (.ref a1), .val (.int (1 : Int32)), .val (.int (3 : Int32))] [(.int (lcmpW x3 (0 : Int64)))])) t → Steps p.tables e below (s₁.setTop (entryFrame m #[(.ref a1)] 3)) t := fun t kt => by
          refine c9 _ ?_
          show Steps p.tables e below (s₁.setTop (mkF m 19 #[.val (.ref a1), .val (.int (1 : Int32)), .val (.int (2 : Int32))] [(.int (lcmpW x2 (0 : Int64)))])) _
          refine XS.ifNo X0.here hx rfl (hb hby d2_19) rfl ((if0 _ _).trans (teq ((lw_eq x2 (0 : Int64)).mpr hc19_3)).2) ?_
          show Steps p.tables e below (s₁.setTop (mkF m 22 #[.val (.ref a1), .val (.int (1 : Int32)), .val (.int (2 : Int32))] [])) _
          refine XS.iconst X0.here hx rfl (hb hby d2_22) ?_
          show Steps p.tables e below (s₁.setTop (mkF m 23 #[.val (.ref a1), .val (.int (1 : Int32)), .val (.int (2 : Int32))] [(.int (1 : Int32))])) _
          refine XS.goto X0.here hx rfl (pc0 := 23) (pc' := 27) rfl (hb hby d2_23) (by decide) (by decide) ?_
          show Steps p.tables e below (s₁.setTop (mkF m 27 #[.val (.ref a1), .val (.int (1 : Int32)), .val (.int (2 : Int32))] [(.int (1 : Int32))])) _
          refine XS.istoreN X0.here hx rfl (hb hby d2_27) rfl (l' := #[.val (.ref a1), .val (.int (1 : Int32)), .val (.int (2 : Int32))]) rfl ?_
          show Steps p.tables e below (s₁.setTop (mkF m 28 #[.val (.ref a1), .val (.int (1 : Int32)), .val (.int (2 : Int32))] [])) _
          refine XS.iinc X0.here hx rfl (hb hby d2_28) rfl (l' := #[.val (.ref a1), .val (.int (1 : Int32)), .val (.int (3 : Int32))]) rfl ?_
          show Steps p.tables e below (s₁.setTop (mkF m 31 #[.val (.ref a1), .val (.int (1 : Int32)), .val (.int (3 : Int32))] [])) _
          refine XS.goto X0.here hx rfl (pc0 := 31) (pc' := 4) rfl (hb hby d2_31) (by decide) (by decide) ?_
          show Steps p.tables e below (s₁.setTop (mkF m 4 #[.val (.ref a1), .val (.int (1 : Int32)), .val (.int (3 : Int32))] [])) _
          refine XS.iloadN X0.here hx rfl (hb hby d2_4) rfl ?_
          show Steps p.tables e below (s₁.setTop (mkF m 5 #[.val (.ref a1), .val (.int (1 : Int32)), .val (.int (3 : Int32))] [(.int (3 : Int32))])) _
          refine XS.aloadN X0.here hx rfl (hb hby d2_5) rfl rfl ?_
          show Steps p.tables e below (s₁.setTop (mkF m 6 #[.val (.ref a1), .val (.int (1 : Int32)), .val (.int (3 : Int32))] [(.ref a1), (.int (3 : Int32))])) _
          refine X0.arraylength hx (by first | exact Ar6_10.1 | (rw [e0]; exact Ar6_10.1)) (State.isArrayOf_alike hZ.alike Ar6_10.2.1) (g := (mkF m 6 #[.val (.ref a1), .val (.int (1 : Int32)), .val (.int (3 : Int32))] [(.ref a1), (.int (3 : Int32))])) rfl rfl (hb hby d2_6) _ ?_
          rw [len_of Sa6_10 Na6_10]
          show Steps p.tables e below (s₁.setTop (mkF m 7 #[.val (.ref a1), .val (.int (1 : Int32)), .val (.int (3 : Int32))] [(.int (4 : Int32)), (.int (3 : Int32))])) _
          refine XS.icmpNo X0.here hx rfl (hb hby d2_7) rfl (tlt (by decide)).2.1 ?_
          show Steps p.tables e below (s₁.setTop (mkF m 10 #[.val (.ref a1), .val (.int (1 : Int32)), .val (.int (3 : Int32))] [])) _
          refine XS.iloadN X0.here hx rfl (hb hby d2_10) rfl ?_
          show Steps p.tables e below (s₁.setTop (mkF m 11 #[.val (.ref a1), .val (.int (1 : Int32)), .val (.int (3 : Int32))] [(.int (1 : Int32))])) _
          refine XS.ifNo X0.here hx rfl (hb hby d2_11) rfl ((if0 _ _).trans (feq (by decide)).1) ?_
          show Steps p.tables e below (s₁.setTop (mkF m 14 #[.val (.ref a1), .val (.int (1 : Int32)), .val (.int (3 : Int32))] [])) _
          refine XS.aloadN X0.here hx rfl (hb hby d2_14) rfl rfl ?_
          show Steps p.tables e below (s₁.setTop (mkF m 15 #[.val (.ref a1), .val (.int (1 : Int32)), .val (.int (3 : Int32))] [(.ref a1)])) _
          refine XS.iloadN X0.here hx rfl (hb hby d2_15) rfl ?_
          show Steps p.tables e below (s₁.setTop (mkF m 16 #[.val (.ref a1), .val (.int (1 : Int32)), .val (.int (3 : Int32))] [(.int (3 : Int32)), (.ref a1)])) _
          refine X0.laload hx (j := (3 : Int32)) (v := (.long x3)) (by first | exact Ar16_11.1 | (rw [e0]; exact Ar16_11.1)) (State.isArrayOf_alike hZ.alike Ar16_11.2.1) Ar16_11.2.2 hin16_11 hat16_11 (g := (mkF m 16 #[.val (.ref a1), .val (.int (1 : Int32)), .val (.int (3 : Int32))] [(.int (3 : Int32)), (.ref a1)])) rfl rfl (hb hby d2_16) _ ?_
          show Steps p.tables e below (s₁.setTop (mkF m 17 #[.val (.ref a1), .val (.int (1 : Int32)), .val (.int (3 : Int32))] [(.long x3)])) _
          refine XS.lconst X0.here hx rfl (hb hby d2_17) ?_
          show Steps p.tables e below (s₁.setTop (mkF m 18 #[.val (.ref a1), .val (.int (1 : Int32)), .val (.int (3 : Int32))] [(.long (0 : Int64)), (.long x3)])) _
          refine XS.lcmp X0.here hx rfl (hb hby d2_18) rfl ?_
          exact kt
        by_cases hc19_4 : x3 = (0 : Int64)
        · have cp6_13 := V0
          obtain ⟨cl6_13, Ar6_13, -, Sa6_13, Na6_13, -, -⟩ := cp6_13
          obtain ⟨fs, hr, hrun, hended, hW, hsame⟩ := X0.leave (v := some (.int (1 : Int32))) (fun h => by rw [Bd.returns] at h; cases h)
          refine ⟨_, _, c12 _ ?_, hrun, hended, _, _, rfl, ?_, ⟨_, rfl⟩, hW, hsame.mono (by decide) (by decide)⟩
          · show Steps p.tables e below (s₁.setTop (mkF m 19 #[.val (.ref a1), .val (.int (1 : Int32)), .val (.int (3 : Int32))] [(.int (lcmpW x3 (0 : Int64)))])) _
            refine XS.ifNo X0.here hx rfl (hb hby d2_19) rfl ((if0 _ _).trans (teq ((lw_eq x3 (0 : Int64)).mpr hc19_4)).2) ?_
            show Steps p.tables e below (s₁.setTop (mkF m 22 #[.val (.ref a1), .val (.int (1 : Int32)), .val (.int (3 : Int32))] [])) _
            refine XS.iconst X0.here hx rfl (hb hby d2_22) ?_
            show Steps p.tables e below (s₁.setTop (mkF m 23 #[.val (.ref a1), .val (.int (1 : Int32)), .val (.int (3 : Int32))] [(.int (1 : Int32))])) _
            refine XS.goto X0.here hx rfl (pc0 := 23) (pc' := 27) rfl (hb hby d2_23) (by decide) (by decide) ?_
            show Steps p.tables e below (s₁.setTop (mkF m 27 #[.val (.ref a1), .val (.int (1 : Int32)), .val (.int (3 : Int32))] [(.int (1 : Int32))])) _
            refine XS.istoreN X0.here hx rfl (hb hby d2_27) rfl (l' := #[.val (.ref a1), .val (.int (1 : Int32)), .val (.int (3 : Int32))]) rfl ?_
            show Steps p.tables e below (s₁.setTop (mkF m 28 #[.val (.ref a1), .val (.int (1 : Int32)), .val (.int (3 : Int32))] [])) _
            refine XS.iinc X0.here hx rfl (hb hby d2_28) rfl (l' := #[.val (.ref a1), .val (.int (1 : Int32)), .val (.int (4 : Int32))]) rfl ?_
            show Steps p.tables e below (s₁.setTop (mkF m 31 #[.val (.ref a1), .val (.int (1 : Int32)), .val (.int (4 : Int32))] [])) _
            refine XS.goto X0.here hx rfl (pc0 := 31) (pc' := 4) rfl (hb hby d2_31) (by decide) (by decide) ?_
            show Steps p.tables e below (s₁.setTop (mkF m 4 #[.val (.ref a1), .val (.int (1 : Int32)), .val (.int (4 : Int32))] [])) _
            refine XS.iloadN X0.here hx rfl (hb hby d2_4) rfl ?_
            show Steps p.tables e below (s₁.setTop (mkF m 5 #[.val (.ref a1), .val (.int (1 : Int32)), .val (.int (4 : Int32))] [(.int (4 : Int32))])) _
            refine XS.aloadN X0.here hx rfl (hb hby d2_5) rfl rfl ?_
            show Steps p.tables e below (s₁.setTop (mkF m 6 #[.val (.ref a1), .val (.int (1 : Int32)), .val (.int (4 : Int32))] [(.ref a1), (.int (4 : Int32))])) _
            refine X0.arraylength hx (by first | exact Ar6_13.1 | (rw [e0]; exact Ar6_13.1)) (State.isArrayOf_alike hZ.alike Ar6_13.2.1) (g := (mkF m 6 #[.val (.ref a1), .val (.int (1 : Int32)), .val (.int (4 : Int32))] [(.ref a1), (.int (4 : Int32))])) rfl rfl (hb hby d2_6) _ ?_
            rw [len_of Sa6_13 Na6_13]
            show Steps p.tables e below (s₁.setTop (mkF m 7 #[.val (.ref a1), .val (.int (1 : Int32)), .val (.int (4 : Int32))] [(.int (4 : Int32)), (.int (4 : Int32))])) _
            refine XS.icmpYes X0.here hx rfl (pc0 := 7) (pc' := 34) rfl (hb hby d2_7) rfl (flt (by decide)).2.1 (by decide) (by decide) ?_
            show Steps p.tables e below (s₁.setTop (mkF m 34 #[.val (.ref a1), .val (.int (1 : Int32)), .val (.int (4 : Int32))] [])) _
            refine XS.iloadN X0.here hx rfl (hb hby d2_34) rfl ?_
            show Steps p.tables e below (s₁.setTop (mkF m 35 #[.val (.ref a1), .val (.int (1 : Int32)), .val (.int (4 : Int32))] [(.int (1 : Int32))])) _
            exact retN X0 hx (t := .boolean) Bd.returns (by simp) (hb hby d2_35) hr
          · show Q2n4 Z a1 kk x0 x1 x2 x3 h0 n0 _ s₁.heap _
            rw [e0]
            have hv : (own_nw4 x0 x1 x2 x3) = (1 : Int32) := by unfold own_nw4; rw [if_pos hc19, if_pos hc19_2, if_pos hc19_3, if_pos hc19_4]
            exact ⟨by rw [hv], N0, rfl⟩
        · have cp6_14 := V0
          obtain ⟨cl6_14, Ar6_14, -, Sa6_14, Na6_14, -, -⟩ := cp6_14
          obtain ⟨fs, hr, hrun, hended, hW, hsame⟩ := X0.leave (v := some (.int (0 : Int32))) (fun h => by rw [Bd.returns] at h; cases h)
          refine ⟨_, _, c12 _ ?_, hrun, hended, _, _, rfl, ?_, ⟨_, rfl⟩, hW, hsame.mono (by decide) (by decide)⟩
          · show Steps p.tables e below (s₁.setTop (mkF m 19 #[.val (.ref a1), .val (.int (1 : Int32)), .val (.int (3 : Int32))] [(.int (lcmpW x3 (0 : Int64)))])) _
            refine XS.ifYes X0.here hx rfl (pc0 := 19) (pc' := 26) rfl (hb hby d2_19) rfl ((if0 _ _).trans (feq (fun q => hc19_4 ((lw_eq x3 (0 : Int64)).mp q))).2) (by decide) (by decide) ?_
            show Steps p.tables e below (s₁.setTop (mkF m 26 #[.val (.ref a1), .val (.int (1 : Int32)), .val (.int (3 : Int32))] [])) _
            refine XS.iconst X0.here hx rfl (hb hby d2_26) ?_
            show Steps p.tables e below (s₁.setTop (mkF m 27 #[.val (.ref a1), .val (.int (1 : Int32)), .val (.int (3 : Int32))] [(.int (0 : Int32))])) _
            refine XS.istoreN X0.here hx rfl (hb hby d2_27) rfl (l' := #[.val (.ref a1), .val (.int (0 : Int32)), .val (.int (3 : Int32))]) rfl ?_
            show Steps p.tables e below (s₁.setTop (mkF m 28 #[.val (.ref a1), .val (.int (0 : Int32)), .val (.int (3 : Int32))] [])) _
            refine XS.iinc X0.here hx rfl (hb hby d2_28) rfl (l' := #[.val (.ref a1), .val (.int (0 : Int32)), .val (.int (4 : Int32))]) rfl ?_
            show Steps p.tables e below (s₁.setTop (mkF m 31 #[.val (.ref a1), .val (.int (0 : Int32)), .val (.int (4 : Int32))] [])) _
            refine XS.goto X0.here hx rfl (pc0 := 31) (pc' := 4) rfl (hb hby d2_31) (by decide) (by decide) ?_
            show Steps p.tables e below (s₁.setTop (mkF m 4 #[.val (.ref a1), .val (.int (0 : Int32)), .val (.int (4 : Int32))] [])) _
            refine XS.iloadN X0.here hx rfl (hb hby d2_4) rfl ?_
            show Steps p.tables e below (s₁.setTop (mkF m 5 #[.val (.ref a1), .val (.int (0 : Int32)), .val (.int (4 : Int32))] [(.int (4 : Int32))])) _
            refine XS.aloadN X0.here hx rfl (hb hby d2_5) rfl rfl ?_
            show Steps p.tables e below (s₁.setTop (mkF m 6 #[.val (.ref a1), .val (.int (0 : Int32)), .val (.int (4 : Int32))] [(.ref a1), (.int (4 : Int32))])) _
            refine X0.arraylength hx (by first | exact Ar6_14.1 | (rw [e0]; exact Ar6_14.1)) (State.isArrayOf_alike hZ.alike Ar6_14.2.1) (g := (mkF m 6 #[.val (.ref a1), .val (.int (0 : Int32)), .val (.int (4 : Int32))] [(.ref a1), (.int (4 : Int32))])) rfl rfl (hb hby d2_6) _ ?_
            rw [len_of Sa6_14 Na6_14]
            show Steps p.tables e below (s₁.setTop (mkF m 7 #[.val (.ref a1), .val (.int (0 : Int32)), .val (.int (4 : Int32))] [(.int (4 : Int32)), (.int (4 : Int32))])) _
            refine XS.icmpYes X0.here hx rfl (pc0 := 7) (pc' := 34) rfl (hb hby d2_7) rfl (flt (by decide)).2.1 (by decide) (by decide) ?_
            show Steps p.tables e below (s₁.setTop (mkF m 34 #[.val (.ref a1), .val (.int (0 : Int32)), .val (.int (4 : Int32))] [])) _
            refine XS.iloadN X0.here hx rfl (hb hby d2_34) rfl ?_
            show Steps p.tables e below (s₁.setTop (mkF m 35 #[.val (.ref a1), .val (.int (0 : Int32)), .val (.int (4 : Int32))] [(.int (0 : Int32))])) _
            exact retN X0 hx (t := .boolean) Bd.returns (by simp) (hb hby d2_35) hr
          · show Q2n4 Z a1 kk x0 x1 x2 x3 h0 n0 _ s₁.heap _
            rw [e0]
            have hv : (own_nw4 x0 x1 x2 x3) = (0 : Int32) := by unfold own_nw4; rw [if_pos hc19, if_pos hc19_2, if_pos hc19_3, if_neg hc19_4]
            exact ⟨by rw [hv], N0, rfl⟩
      · have cp6_15 := V0
        obtain ⟨cl6_15, Ar6_15, -, Sa6_15, Na6_15, -, -⟩ := cp6_15
        obtain ⟨fs, hr, hrun, hended, hW, hsame⟩ := X0.leave (v := some (.int (0 : Int32))) (fun h => by rw [Bd.returns] at h; cases h)
        refine ⟨_, _, c9 _ ?_, hrun, hended, _, _, rfl, ?_, ⟨_, rfl⟩, hW, hsame.mono (by decide) (by decide)⟩
        · show Steps p.tables e below (s₁.setTop (mkF m 19 #[.val (.ref a1), .val (.int (1 : Int32)), .val (.int (2 : Int32))] [(.int (lcmpW x2 (0 : Int64)))])) _
          refine XS.ifYes X0.here hx rfl (pc0 := 19) (pc' := 26) rfl (hb hby d2_19) rfl ((if0 _ _).trans (feq (fun q => hc19_3 ((lw_eq x2 (0 : Int64)).mp q))).2) (by decide) (by decide) ?_
          show Steps p.tables e below (s₁.setTop (mkF m 26 #[.val (.ref a1), .val (.int (1 : Int32)), .val (.int (2 : Int32))] [])) _
          refine XS.iconst X0.here hx rfl (hb hby d2_26) ?_
          show Steps p.tables e below (s₁.setTop (mkF m 27 #[.val (.ref a1), .val (.int (1 : Int32)), .val (.int (2 : Int32))] [(.int (0 : Int32))])) _
          refine XS.istoreN X0.here hx rfl (hb hby d2_27) rfl (l' := #[.val (.ref a1), .val (.int (0 : Int32)), .val (.int (2 : Int32))]) rfl ?_
          show Steps p.tables e below (s₁.setTop (mkF m 28 #[.val (.ref a1), .val (.int (0 : Int32)), .val (.int (2 : Int32))] [])) _
          refine XS.iinc X0.here hx rfl (hb hby d2_28) rfl (l' := #[.val (.ref a1), .val (.int (0 : Int32)), .val (.int (3 : Int32))]) rfl ?_
          show Steps p.tables e below (s₁.setTop (mkF m 31 #[.val (.ref a1), .val (.int (0 : Int32)), .val (.int (3 : Int32))] [])) _
          refine XS.goto X0.here hx rfl (pc0 := 31) (pc' := 4) rfl (hb hby d2_31) (by decide) (by decide) ?_
          show Steps p.tables e below (s₁.setTop (mkF m 4 #[.val (.ref a1), .val (.int (0 : Int32)), .val (.int (3 : Int32))] [])) _
          refine XS.iloadN X0.here hx rfl (hb hby d2_4) rfl ?_
          show Steps p.tables e below (s₁.setTop (mkF m 5 #[.val (.ref a1), .val (.int (0 : Int32)), .val (.int (3 : Int32))] [(.int (3 : Int32))])) _
          refine XS.aloadN X0.here hx rfl (hb hby d2_5) rfl rfl ?_
          show Steps p.tables e below (s₁.setTop (mkF m 6 #[.val (.ref a1), .val (.int (0 : Int32)), .val (.int (3 : Int32))] [(.ref a1), (.int (3 : Int32))])) _
          refine X0.arraylength hx (by first | exact Ar6_15.1 | (rw [e0]; exact Ar6_15.1)) (State.isArrayOf_alike hZ.alike Ar6_15.2.1) (g := (mkF m 6 #[.val (.ref a1), .val (.int (0 : Int32)), .val (.int (3 : Int32))] [(.ref a1), (.int (3 : Int32))])) rfl rfl (hb hby d2_6) _ ?_
          rw [len_of Sa6_15 Na6_15]
          show Steps p.tables e below (s₁.setTop (mkF m 7 #[.val (.ref a1), .val (.int (0 : Int32)), .val (.int (3 : Int32))] [(.int (4 : Int32)), (.int (3 : Int32))])) _
          refine XS.icmpNo X0.here hx rfl (hb hby d2_7) rfl (tlt (by decide)).2.1 ?_
          show Steps p.tables e below (s₁.setTop (mkF m 10 #[.val (.ref a1), .val (.int (0 : Int32)), .val (.int (3 : Int32))] [])) _
          refine XS.iloadN X0.here hx rfl (hb hby d2_10) rfl ?_
          show Steps p.tables e below (s₁.setTop (mkF m 11 #[.val (.ref a1), .val (.int (0 : Int32)), .val (.int (3 : Int32))] [(.int (0 : Int32))])) _
          refine XS.ifYes X0.here hx rfl (pc0 := 11) (pc' := 34) rfl (hb hby d2_11) rfl ((if0 _ _).trans (teq (by decide)).1) (by decide) (by decide) ?_
          show Steps p.tables e below (s₁.setTop (mkF m 34 #[.val (.ref a1), .val (.int (0 : Int32)), .val (.int (3 : Int32))] [])) _
          refine XS.iloadN X0.here hx rfl (hb hby d2_34) rfl ?_
          show Steps p.tables e below (s₁.setTop (mkF m 35 #[.val (.ref a1), .val (.int (0 : Int32)), .val (.int (3 : Int32))] [(.int (0 : Int32))])) _
          exact retN X0 hx (t := .boolean) Bd.returns (by simp) (hb hby d2_35) hr
        · show Q2n4 Z a1 kk x0 x1 x2 x3 h0 n0 _ s₁.heap _
          rw [e0]
          have hv : (own_nw4 x0 x1 x2 x3) = (0 : Int32) := by unfold own_nw4; rw [if_pos hc19, if_pos hc19_2, if_neg hc19_3]
          exact ⟨by rw [hv], N0, rfl⟩
    · have cp6_16 := V0
      obtain ⟨cl6_16, Ar6_16, -, Sa6_16, Na6_16, -, -⟩ := cp6_16
      obtain ⟨fs, hr, hrun, hended, hW, hsame⟩ := X0.leave (v := some (.int (0 : Int32))) (fun h => by rw [Bd.returns] at h; cases h)
      refine ⟨_, _, c6 _ ?_, hrun, hended, _, _, rfl, ?_, ⟨_, rfl⟩, hW, hsame.mono (by decide) (by decide)⟩
      · show Steps p.tables e below (s₁.setTop (mkF m 19 #[.val (.ref a1), .val (.int (1 : Int32)), .val (.int (1 : Int32))] [(.int (lcmpW x1 (0 : Int64)))])) _
        refine XS.ifYes X0.here hx rfl (pc0 := 19) (pc' := 26) rfl (hb hby d2_19) rfl ((if0 _ _).trans (feq (fun q => hc19_2 ((lw_eq x1 (0 : Int64)).mp q))).2) (by decide) (by decide) ?_
        show Steps p.tables e below (s₁.setTop (mkF m 26 #[.val (.ref a1), .val (.int (1 : Int32)), .val (.int (1 : Int32))] [])) _
        refine XS.iconst X0.here hx rfl (hb hby d2_26) ?_
        show Steps p.tables e below (s₁.setTop (mkF m 27 #[.val (.ref a1), .val (.int (1 : Int32)), .val (.int (1 : Int32))] [(.int (0 : Int32))])) _
        refine XS.istoreN X0.here hx rfl (hb hby d2_27) rfl (l' := #[.val (.ref a1), .val (.int (0 : Int32)), .val (.int (1 : Int32))]) rfl ?_
        show Steps p.tables e below (s₁.setTop (mkF m 28 #[.val (.ref a1), .val (.int (0 : Int32)), .val (.int (1 : Int32))] [])) _
        refine XS.iinc X0.here hx rfl (hb hby d2_28) rfl (l' := #[.val (.ref a1), .val (.int (0 : Int32)), .val (.int (2 : Int32))]) rfl ?_
        show Steps p.tables e below (s₁.setTop (mkF m 31 #[.val (.ref a1), .val (.int (0 : Int32)), .val (.int (2 : Int32))] [])) _
        refine XS.goto X0.here hx rfl (pc0 := 31) (pc' := 4) rfl (hb hby d2_31) (by decide) (by decide) ?_
        show Steps p.tables e below (s₁.setTop (mkF m 4 #[.val (.ref a1), .val (.int (0 : Int32)), .val (.int (2 : Int32))] [])) _
        refine XS.iloadN X0.here hx rfl (hb hby d2_4) rfl ?_
        show Steps p.tables e below (s₁.setTop (mkF m 5 #[.val (.ref a1), .val (.int (0 : Int32)), .val (.int (2 : Int32))] [(.int (2 : Int32))])) _
        refine XS.aloadN X0.here hx rfl (hb hby d2_5) rfl rfl ?_
        show Steps p.tables e below (s₁.setTop (mkF m 6 #[.val (.ref a1), .val (.int (0 : Int32)), .val (.int (2 : Int32))] [(.ref a1), (.int (2 : Int32))])) _
        refine X0.arraylength hx (by first | exact Ar6_16.1 | (rw [e0]; exact Ar6_16.1)) (State.isArrayOf_alike hZ.alike Ar6_16.2.1) (g := (mkF m 6 #[.val (.ref a1), .val (.int (0 : Int32)), .val (.int (2 : Int32))] [(.ref a1), (.int (2 : Int32))])) rfl rfl (hb hby d2_6) _ ?_
        rw [len_of Sa6_16 Na6_16]
        show Steps p.tables e below (s₁.setTop (mkF m 7 #[.val (.ref a1), .val (.int (0 : Int32)), .val (.int (2 : Int32))] [(.int (4 : Int32)), (.int (2 : Int32))])) _
        refine XS.icmpNo X0.here hx rfl (hb hby d2_7) rfl (tlt (by decide)).2.1 ?_
        show Steps p.tables e below (s₁.setTop (mkF m 10 #[.val (.ref a1), .val (.int (0 : Int32)), .val (.int (2 : Int32))] [])) _
        refine XS.iloadN X0.here hx rfl (hb hby d2_10) rfl ?_
        show Steps p.tables e below (s₁.setTop (mkF m 11 #[.val (.ref a1), .val (.int (0 : Int32)), .val (.int (2 : Int32))] [(.int (0 : Int32))])) _
        refine XS.ifYes X0.here hx rfl (pc0 := 11) (pc' := 34) rfl (hb hby d2_11) rfl ((if0 _ _).trans (teq (by decide)).1) (by decide) (by decide) ?_
        show Steps p.tables e below (s₁.setTop (mkF m 34 #[.val (.ref a1), .val (.int (0 : Int32)), .val (.int (2 : Int32))] [])) _
        refine XS.iloadN X0.here hx rfl (hb hby d2_34) rfl ?_
        show Steps p.tables e below (s₁.setTop (mkF m 35 #[.val (.ref a1), .val (.int (0 : Int32)), .val (.int (2 : Int32))] [(.int (0 : Int32))])) _
        exact retN X0 hx (t := .boolean) Bd.returns (by simp) (hb hby d2_35) hr
      · show Q2n4 Z a1 kk x0 x1 x2 x3 h0 n0 _ s₁.heap _
        rw [e0]
        have hv : (own_nw4 x0 x1 x2 x3) = (0 : Int32) := by unfold own_nw4; rw [if_pos hc19, if_neg hc19_2]
        exact ⟨by rw [hv], N0, rfl⟩
  · have cp6_17 := V0
    obtain ⟨cl6_17, Ar6_17, -, Sa6_17, Na6_17, -, -⟩ := cp6_17
    obtain ⟨fs, hr, hrun, hended, hW, hsame⟩ := X0.leave (v := some (.int (0 : Int32))) (fun h => by rw [Bd.returns] at h; cases h)
    refine ⟨_, _, c3 _ ?_, hrun, hended, _, _, rfl, ?_, ⟨_, rfl⟩, hW, hsame.mono (by decide) (by decide)⟩
    · show Steps p.tables e below (s₁.setTop (mkF m 19 #[.val (.ref a1), .val (.int (1 : Int32)), .val (.int (0 : Int32))] [(.int (lcmpW x0 (0 : Int64)))])) _
      refine XS.ifYes X0.here hx rfl (pc0 := 19) (pc' := 26) rfl (hb hby d2_19) rfl ((if0 _ _).trans (feq (fun q => hc19 ((lw_eq x0 (0 : Int64)).mp q))).2) (by decide) (by decide) ?_
      show Steps p.tables e below (s₁.setTop (mkF m 26 #[.val (.ref a1), .val (.int (1 : Int32)), .val (.int (0 : Int32))] [])) _
      refine XS.iconst X0.here hx rfl (hb hby d2_26) ?_
      show Steps p.tables e below (s₁.setTop (mkF m 27 #[.val (.ref a1), .val (.int (1 : Int32)), .val (.int (0 : Int32))] [(.int (0 : Int32))])) _
      refine XS.istoreN X0.here hx rfl (hb hby d2_27) rfl (l' := #[.val (.ref a1), .val (.int (0 : Int32)), .val (.int (0 : Int32))]) rfl ?_
      show Steps p.tables e below (s₁.setTop (mkF m 28 #[.val (.ref a1), .val (.int (0 : Int32)), .val (.int (0 : Int32))] [])) _
      refine XS.iinc X0.here hx rfl (hb hby d2_28) rfl (l' := #[.val (.ref a1), .val (.int (0 : Int32)), .val (.int (1 : Int32))]) rfl ?_
      show Steps p.tables e below (s₁.setTop (mkF m 31 #[.val (.ref a1), .val (.int (0 : Int32)), .val (.int (1 : Int32))] [])) _
      refine XS.goto X0.here hx rfl (pc0 := 31) (pc' := 4) rfl (hb hby d2_31) (by decide) (by decide) ?_
      show Steps p.tables e below (s₁.setTop (mkF m 4 #[.val (.ref a1), .val (.int (0 : Int32)), .val (.int (1 : Int32))] [])) _
      refine XS.iloadN X0.here hx rfl (hb hby d2_4) rfl ?_
      show Steps p.tables e below (s₁.setTop (mkF m 5 #[.val (.ref a1), .val (.int (0 : Int32)), .val (.int (1 : Int32))] [(.int (1 : Int32))])) _
      refine XS.aloadN X0.here hx rfl (hb hby d2_5) rfl rfl ?_
      show Steps p.tables e below (s₁.setTop (mkF m 6 #[.val (.ref a1), .val (.int (0 : Int32)), .val (.int (1 : Int32))] [(.ref a1), (.int (1 : Int32))])) _
      refine X0.arraylength hx (by first | exact Ar6_17.1 | (rw [e0]; exact Ar6_17.1)) (State.isArrayOf_alike hZ.alike Ar6_17.2.1) (g := (mkF m 6 #[.val (.ref a1), .val (.int (0 : Int32)), .val (.int (1 : Int32))] [(.ref a1), (.int (1 : Int32))])) rfl rfl (hb hby d2_6) _ ?_
      rw [len_of Sa6_17 Na6_17]
      show Steps p.tables e below (s₁.setTop (mkF m 7 #[.val (.ref a1), .val (.int (0 : Int32)), .val (.int (1 : Int32))] [(.int (4 : Int32)), (.int (1 : Int32))])) _
      refine XS.icmpNo X0.here hx rfl (hb hby d2_7) rfl (tlt (by decide)).2.1 ?_
      show Steps p.tables e below (s₁.setTop (mkF m 10 #[.val (.ref a1), .val (.int (0 : Int32)), .val (.int (1 : Int32))] [])) _
      refine XS.iloadN X0.here hx rfl (hb hby d2_10) rfl ?_
      show Steps p.tables e below (s₁.setTop (mkF m 11 #[.val (.ref a1), .val (.int (0 : Int32)), .val (.int (1 : Int32))] [(.int (0 : Int32))])) _
      refine XS.ifYes X0.here hx rfl (pc0 := 11) (pc' := 34) rfl (hb hby d2_11) rfl ((if0 _ _).trans (teq (by decide)).1) (by decide) (by decide) ?_
      show Steps p.tables e below (s₁.setTop (mkF m 34 #[.val (.ref a1), .val (.int (0 : Int32)), .val (.int (1 : Int32))] [])) _
      refine XS.iloadN X0.here hx rfl (hb hby d2_34) rfl ?_
      show Steps p.tables e below (s₁.setTop (mkF m 35 #[.val (.ref a1), .val (.int (0 : Int32)), .val (.int (1 : Int32))] [(.int (0 : Int32))])) _
      exact retN X0 hx (t := .boolean) Bd.returns (by simp) (hb hby d2_35) hr
    · show Q2n4 Z a1 kk x0 x1 x2 x3 h0 n0 _ s₁.heap _
      rw [e0]
      have hv : (own_nw4 x0 x1 x2 x3) = (0 : Int32) := by unfold own_nw4; rw [if_neg hc19]
      exact ⟨by rw [hv], N0, rfl⟩
theorem own_five (x : Int32) (h0 : 0 ≤ x.toInt) (h5 : x.toInt < 5) : x = (0 : Int32) ∨ x = (1 : Int32) ∨ x = (2 : Int32) ∨ x = (3 : Int32) ∨ x = (4 : Int32) := by
  have key : ∀ k : Int32, x.toInt = k.toInt → x = k := fun k e => Int32.toInt_inj.mp e
  have e0 : (0 : Int32).toInt = 0 := by decide
  have e1 : (1 : Int32).toInt = 1 := by decide
  have e2 : (2 : Int32).toInt = 2 := by decide
  have e3 : (3 : Int32).toInt = 3 := by decide
  have e4 : (4 : Int32).toInt = 4 := by decide
  have : x.toInt = 0 ∨ x.toInt = 1 ∨ x.toInt = 2 ∨ x.toInt = 3 ∨ x.toInt = 4 := by omega
  rcases this with h | h | h | h | h
  · exact Or.inl (key 0 (h.trans e0.symm))
  · exact Or.inr (Or.inl (key 1 (h.trans e1.symm)))
  · exact Or.inr (Or.inr (Or.inl (key 2 (h.trans e2.symm))))
  · exact Or.inr (Or.inr (Or.inr (Or.inl (key 3 (h.trans e3.symm)))))
  · exact Or.inr (Or.inr (Or.inr (Or.inr (key 4 (h.trans e4.symm)))))
theorem own_n (p1 : Int32) : ((p1 &&& (2147483647 : Int32)) - ((p1 &&& (2147483647 : Int32)) / (5 : Int32)) * (5 : Int32)) = (0 : Int32) ∨ ((p1 &&& (2147483647 : Int32)) - ((p1 &&& (2147483647 : Int32)) / (5 : Int32)) * (5 : Int32)) = (1 : Int32) ∨ ((p1 &&& (2147483647 : Int32)) - ((p1 &&& (2147483647 : Int32)) / (5 : Int32)) * (5 : Int32)) = (2 : Int32) ∨ ((p1 &&& (2147483647 : Int32)) - ((p1 &&& (2147483647 : Int32)) / (5 : Int32)) * (5 : Int32)) = (3 : Int32) ∨ ((p1 &&& (2147483647 : Int32)) - ((p1 &&& (2147483647 : Int32)) / (5 : Int32)) * (5 : Int32)) = (4 : Int32) := by
  have a := (c_and p1 2147483647 (by decide)).1
  have e : (p1 &&& (2147483647 : Int32)) - ((p1 &&& (2147483647 : Int32)) / (5 : Int32)) * (5 : Int32) = (p1 &&& (2147483647 : Int32)) % 5 := own_rem _ _
  have h := (c_irem (p1 &&& 2147483647) 5 5 (by decide)).1 a
  rw [e]
  exact own_five _ (by rw [h]; omega) (by rw [h]; omega)
theorem pn0 : plainName "com/example/vestline/vestline/ProRataNoWeightPinLaw" = true := by first | (simp [plainName, overriddenIn]; done) | decide +kernel
theorem pd0_0 : parseMethodDescriptor "(IIJ)J" = some ⟨[.int, .int, .long], some .long⟩ := by decide +kernel
theorem pd0_1 : parseMethodDescriptor "([J)Z" = some ⟨[(.array .long)], some .boolean⟩ := by decide +kernel
theorem ef0 (m : MethodId) (p1 : Int32) (p2 : Int32) (q3 : Int64) (q4 : Int64) (q5 : Int64) (q6 : Int64) : entryFrame m #[(.int p1), (.int p2), (.long q3), (.long q4), (.long q5), (.long q6)] maxLocals = mkF m 0 #[.val (.int p1), .val (.int p2), .val (.long q3), .second, .val (.long q4), .second, .val (.long q5), .second, .val (.long q6), .second, .unset, .unset, .unset, .unset, .unset, .unset, .unset, .unset, .unset, .unset, .unset] [] := by first | (simp [entryFrame, mkF, argsToLocals, Value.category, maxLocals]; done) | rfl
def Q0 (Z : State) (p1 : Int32) (p2 : Int32) (q3 : Int64) (q4 : Int64) (q5 : Int64) (q6 : Int64) (h0 : Heap) (n0 : Nat) (v : Option Value) (h : Heap) (L : List Loc) : Prop := v = some (.int (1 : Int32)) ∧ Fr n0 L
set_option maxRecDepth 65536 in
set_option maxHeartbeats 40000000 in
theorem rm0 (l : Launch) (Z : State) (a0 : Array Value) (hw : ∀ d ∈ tables_1, d.before a0 Z = true) (ws : List Jvm.Cond) (p1 : Int32) (p2 : Int32) (q3 : Int64) (q4 : Int64) (q5 : Int64) (q6 : Int64) (h0 : Heap) (n0 : Nat) (Z0 : n0 ≤ h0.size) :
    MetFree l x (head1 (Jvm.Cond.code x code maxLocals ret :: ws) room_1) (fun a U => a = #[(.int p1), (.int p2), (.long q3), (.long q4), (.long q5), (.long q6)] ∧ Z.Warmed39 U.vm ∧ U.heap = h0) (fun _ _ _ _ _ => True) (fun _ U o U' => ∃ v L, o = .returned v ∧ Q0 Z p1 p2 q3 q4 q5 q6 h0 n0 v U'.heap L ∧ FrameEnd U o U' L room_1.cells room_1.slots) := by
  refine MetFree.of_bodySF (plainFor_of_name pn0) hisR ?_
  intro p e s m args below meth c s₁ Bd hml0 hP hK
  obtain ⟨rfl, hZ, hh⟩ := hP
  have hx := Bd.exec
  have hby := Bd.bytes
  have hml : c.maxLocals = 21 := hml0
  have hown : s.vm.findClass "com/example/vestline/vestline/ProRataNoWeightPinLaw" = some m.cls := findClass_of_methodNamed Bd.named
  have hnm := (name_of_methodNamed Bd.named Bd.method).1
  have X0 : Stand p l e room_1 s m #[(.int p1), (.int p2), (.long q3), (.long q4), (.long q5), (.long q6)] below meth c s₁ [] 0 0 := Stand.of_body Bd
  have e0 : s₁.heap = h0 := by rw [← hh, Bd.state]; rfl
  have N0 := Fr.nil n0
  have pre0 : ∀ t, Steps p.tables e below (s₁.setTop (mkF m 0 #[.val (.int p1), .val (.int p2), .val (.long q3), .second, .val (.long q4), .second, .val (.long q5), .second, .val (.long q6), .second, .unset, .unset, .unset, .unset, .unset, .unset, .unset, .unset, .unset, .unset, .unset] [])) t → Steps p.tables e below (s₁.setTop (entryFrame m #[(.int p1), (.int p2), (.long q3), (.long q4), (.long q5), (.long q6)] maxLocals)) t := fun t k => castTop (ef0 m p1 p2 q3 q4 q5 q6) k
  obtain ⟨_, _, ⟨T1, L1, k1, n1⟩, -, X1, ⟨Lc1, hQ1, l1, y1, z1⟩, st1⟩ := Jvm.LawKit.callS X0 hx (y := (⟨"com/example/vestline/vestline/ProRataNoWeightPinLaw", "pick", "(IIJ)J"⟩ : MethodName)) hown (mvT hZ (hw _ (List.mem_of_getElem? (i := 1) rfl))) (mvT hZ (hw _ (List.mem_of_getElem? (i := 2) rfl))) (mvT hZ (hw _ (List.mem_of_getElem? (i := 3) rfl))) (mvT hZ (hw _ (List.mem_of_getElem? (i := 4) rfl))) (by decide) (backOf (W := 0) (rm1 l Z a0 hw [] p2 (0 : Int32) q3 h0 n0 Z0 ) hZ (hw _ (List.mem_of_getElem? (i := 4) rfl)) (hw _ (List.mem_of_getElem? (i := 3) rfl)) (by decide) (by decide)) (g := (mkF m 11 #[.val (.int p1), .val (.int p2), .val (.long q3), .second, .val (.long q4), .second, .val (.long q5), .second, .val (.long q6), .second, .val (.int ((p1 &&& (2147483647 : Int32)) - ((p1 &&& (2147483647 : Int32)) / (5 : Int32)) * (5 : Int32))), .unset, .unset, .unset, .unset, .unset, .unset, .unset, .unset, .unset, .unset] [(.long q3), (.int (0 : Int32)), (.int p2)])) rfl (by rw [hml]; rfl) (argsL := [(.int p2), (.int (0 : Int32)), (.long q3)]) (rest := []) (lenOf pd0_0 rfl) rfl (by show 2 * 0 + _ ≤ _; exact Nat.le_of_eq rfl) (hb hby at_11) (fun _ _ => ⟨rfl, e0, (by decide : 0 + 0 ≤ _), (by decide : 0 + 0 ≤ _)⟩)
  dsimp only [Pt.U, Pt.locs, Pt.cells, Pt.slots] at X1 l1 y1 z1 st1 hQ1
  subst l1 y1 z1
  obtain ⟨rfl, N1q, e1⟩ := hQ1
  have N1 := Fr.app N0 N1q
  obtain ⟨_, _, ⟨T2, L2, k2, n2⟩, -, X2, ⟨Lc2, hQ2, l2, y2, z2⟩, st2⟩ := Jvm.LawKit.callS X1 hx (y := (⟨"com/example/vestline/vestline/ProRataNoWeightPinLaw", "pick", "(IIJ)J"⟩ : MethodName)) hown (mvT hZ (hw _ (List.mem_of_getElem? (i := 1) rfl))) (mvT hZ (hw _ (List.mem_of_getElem? (i := 2) rfl))) (mvT hZ (hw _ (List.mem_of_getElem? (i := 3) rfl))) (mvT hZ (hw _ (List.mem_of_getElem? (i := 4) rfl))) (by decide) (backOf (W := 0) (rm1 l Z a0 hw [] p2 (1 : Int32) q4 h0 n0 Z0 ) hZ (hw _ (List.mem_of_getElem? (i := 4) rfl)) (hw _ (List.mem_of_getElem? (i := 3) rfl)) (by decide) (by decide)) (g := (mkF m 20 #[.val (.int p1), .val (.int p2), .val (.long q3), .second, .val (.long q4), .second, .val (.long q5), .second, .val (.long q6), .second, .val (.int ((p1 &&& (2147483647 : Int32)) - ((p1 &&& (2147483647 : Int32)) / (5 : Int32)) * (5 : Int32))), .val (.long (own_pick p2 (0 : Int32) q3)), .second, .unset, .unset, .unset, .unset, .unset, .unset, .unset, .unset] [(.long q4), (.int (1 : Int32)), (.int p2)])) rfl (by rw [hml]; rfl) (argsL := [(.int p2), (.int (1 : Int32)), (.long q4)]) (rest := []) (lenOf pd0_0 rfl) rfl (by show 2 * 0 + _ ≤ _; exact Nat.le_of_eq rfl) (hb hby at_20) (fun _ _ => ⟨rfl, e1, (by decide : 0 + 0 ≤ _), (by decide : 0 + 0 ≤ _)⟩)
  dsimp only [Pt.U, Pt.locs, Pt.cells, Pt.slots] at X2 l2 y2 z2 st2 hQ2
  subst l2 y2 z2
  obtain ⟨rfl, N2q, e2⟩ := hQ2
  have N2 := Fr.app N1 N2q
  obtain ⟨_, _, ⟨T3, L3, k3, n3⟩, -, X3, ⟨Lc3, hQ3, l3, y3, z3⟩, st3⟩ := Jvm.LawKit.callS X2 hx (y := (⟨"com/example/vestline/vestline/ProRataNoWeightPinLaw", "pick", "(IIJ)J"⟩ : MethodName)) hown (mvT hZ (hw _ (List.mem_of_getElem? (i := 1) rfl))) (mvT hZ (hw _ (List.mem_of_getElem? (i := 2) rfl))) (mvT hZ (hw _ (List.mem_of_getElem? (i := 3) rfl))) (mvT hZ (hw _ (List.mem_of_getElem? (i := 4) rfl))) (by decide) (backOf (W := 0) (rm1 l Z a0 hw [] p2 (2 : Int32) q5 h0 n0 Z0 ) hZ (hw _ (List.mem_of_getElem? (i := 4) rfl)) (hw _ (List.mem_of_getElem? (i := 3) rfl)) (by decide) (by decide)) (g := (mkF m 29 #[.val (.int p1), .val (.int p2), .val (.long q3), .second, .val (.long q4), .second, .val (.long q5), .second, .val (.long q6), .second, .val (.int ((p1 &&& (2147483647 : Int32)) - ((p1 &&& (2147483647 : Int32)) / (5 : Int32)) * (5 : Int32))), .val (.long (own_pick p2 (0 : Int32) q3)), .second, .val (.long (own_pick p2 (1 : Int32) q4)), .second, .unset, .unset, .unset, .unset, .unset, .unset] [(.long q5), (.int (2 : Int32)), (.int p2)])) rfl (by rw [hml]; rfl) (argsL := [(.int p2), (.int (2 : Int32)), (.long q5)]) (rest := []) (lenOf pd0_0 rfl) rfl (by show 2 * 0 + _ ≤ _; exact Nat.le_of_eq rfl) (hb hby at_29) (fun _ _ => ⟨rfl, e2, (by decide : 0 + 0 ≤ _), (by decide : 0 + 0 ≤ _)⟩)
  dsimp only [Pt.U, Pt.locs, Pt.cells, Pt.slots] at X3 l3 y3 z3 st3 hQ3
  subst l3 y3 z3
  obtain ⟨rfl, N3q, e3⟩ := hQ3
  have N3 := Fr.app N2 N3q
  obtain ⟨_, _, ⟨T4, L4, k4, n4⟩, -, X4, ⟨Lc4, hQ4, l4, y4, z4⟩, st4⟩ := Jvm.LawKit.callS X3 hx (y := (⟨"com/example/vestline/vestline/ProRataNoWeightPinLaw", "pick", "(IIJ)J"⟩ : MethodName)) hown (mvT hZ (hw _ (List.mem_of_getElem? (i := 1) rfl))) (mvT hZ (hw _ (List.mem_of_getElem? (i := 2) rfl))) (mvT hZ (hw _ (List.mem_of_getElem? (i := 3) rfl))) (mvT hZ (hw _ (List.mem_of_getElem? (i := 4) rfl))) (by decide) (backOf (W := 0) (rm1 l Z a0 hw [] p2 (3 : Int32) q6 h0 n0 Z0 ) hZ (hw _ (List.mem_of_getElem? (i := 4) rfl)) (hw _ (List.mem_of_getElem? (i := 3) rfl)) (by decide) (by decide)) (g := (mkF m 38 #[.val (.int p1), .val (.int p2), .val (.long q3), .second, .val (.long q4), .second, .val (.long q5), .second, .val (.long q6), .second, .val (.int ((p1 &&& (2147483647 : Int32)) - ((p1 &&& (2147483647 : Int32)) / (5 : Int32)) * (5 : Int32))), .val (.long (own_pick p2 (0 : Int32) q3)), .second, .val (.long (own_pick p2 (1 : Int32) q4)), .second, .val (.long (own_pick p2 (2 : Int32) q5)), .second, .unset, .unset, .unset, .unset] [(.long q6), (.int (3 : Int32)), (.int p2)])) rfl (by rw [hml]; rfl) (argsL := [(.int p2), (.int (3 : Int32)), (.long q6)]) (rest := []) (lenOf pd0_0 rfl) rfl (by show 2 * 0 + _ ≤ _; exact Nat.le_of_eq rfl) (hb hby at_38) (fun _ _ => ⟨rfl, e3, (by decide : 0 + 0 ≤ _), (by decide : 0 + 0 ≤ _)⟩)
  dsimp only [Pt.U, Pt.locs, Pt.cells, Pt.slots] at X4 l4 y4 z4 st4 hQ4
  subst l4 y4 z4
  obtain ⟨rfl, N4q, e4⟩ := hQ4
  have N4 := Fr.app N3 N4q
  have c5 : ∀ t, Steps p.tables e below (T4.setTop (mkF m 43 #[.val (.int p1), .val (.int p2), .val (.long q3), .second, .val (.long q4), .second, .val (.long q5), .second, .val (.long q6), .second, .val (.int ((p1 &&& (2147483647 : Int32)) - ((p1 &&& (2147483647 : Int32)) / (5 : Int32)) * (5 : Int32))), .val (.long (own_pick p2 (0 : Int32) q3)), .second, .val (.long (own_pick p2 (1 : Int32) q4)), .second, .val (.long (own_pick p2 (2 : Int32) q5)), .second, .val (.long (own_pick p2 (3 : Int32) q6)), .second, .unset, .unset] [])) t → Steps p.tables e below (s₁.setTop (entryFrame m #[(.int p1), (.int p2), (.long q3), (.long q4), (.long q5), (.long q6)] maxLocals)) t := fun t kt => by
    refine pre0 _ ?_
    show Steps p.tables e below (s₁.setTop (mkF m 0 #[.val (.int p1), .val (.int p2), .val (.long q3), .second, .val (.long q4), .second, .val (.long q5), .second, .val (.long q6), .second, .unset, .unset, .unset, .unset, .unset, .unset, .unset, .unset, .unset, .unset, .unset] [])) _
    refine XS.iloadN X0.here hx rfl (hb hby at_0) rfl ?_
    show Steps p.tables e below (s₁.setTop (mkF m 1 #[.val (.int p1), .val (.int p2), .val (.long q3), .second, .val (.long q4), .second, .val (.long q5), .second, .val (.long q6), .second, .unset, .unset, .unset, .unset, .unset, .unset, .unset, .unset, .unset, .unset, .unset] [(.int p1)])) _
    refine X0.ldcInt hx hown (mvT hZ (hw _ (List.mem_of_getElem? (i := 0) rfl))) (g := (mkF m 1 #[.val (.int p1), .val (.int p2), .val (.long q3), .second, .val (.long q4), .second, .val (.long q5), .second, .val (.long q6), .second, .unset, .unset, .unset, .unset, .unset, .unset, .unset, .unset, .unset, .unset, .unset] [(.int p1)])) rfl (hb hby at_1) _ ?_
    show Steps p.tables e below (s₁.setTop (mkF m 3 #[.val (.int p1), .val (.int p2), .val (.long q3), .second, .val (.long q4), .second, .val (.long q5), .second, .val (.long q6), .second, .unset, .unset, .unset, .unset, .unset, .unset, .unset, .unset, .unset, .unset, .unset] [(.int (2147483647 : Int32)), (.int p1)])) _
    refine XS.iand X0.here hx rfl (hb hby at_3) rfl ?_
    show Steps p.tables e below (s₁.setTop (mkF m 4 #[.val (.int p1), .val (.int p2), .val (.long q3), .second, .val (.long q4), .second, .val (.long q5), .second, .val (.long q6), .second, .unset, .unset, .unset, .unset, .unset, .unset, .unset, .unset, .unset, .unset, .unset] [(.int (p1 &&& (2147483647 : Int32)))])) _
    refine XS.iconst X0.here hx rfl (hb hby at_4) ?_
    show Steps p.tables e below (s₁.setTop (mkF m 5 #[.val (.int p1), .val (.int p2), .val (.long q3), .second, .val (.long q4), .second, .val (.long q5), .second, .val (.long q6), .second, .unset, .unset, .unset, .unset, .unset, .unset, .unset, .unset, .unset, .unset, .unset] [(.int (5 : Int32)), (.int (p1 &&& (2147483647 : Int32)))])) _
    refine XS.irem X0.here hx rfl (hb hby at_5) rfl (by decide) ?_
    show Steps p.tables e below (s₁.setTop (mkF m 6 #[.val (.int p1), .val (.int p2), .val (.long q3), .second, .val (.long q4), .second, .val (.long q5), .second, .val (.long q6), .second, .unset, .unset, .unset, .unset, .unset, .unset, .unset, .unset, .unset, .unset, .unset] [(.int ((p1 &&& (2147483647 : Int32)) - ((p1 &&& (2147483647 : Int32)) / (5 : Int32)) * (5 : Int32)))])) _
    refine XS.istore X0.here hx rfl (hb hby at_6) rfl (l' := #[.val (.int p1), .val (.int p2), .val (.long q3), .second, .val (.long q4), .second, .val (.long q5), .second, .val (.long q6), .second, .val (.int ((p1 &&& (2147483647 : Int32)) - ((p1 &&& (2147483647 : Int32)) / (5 : Int32)) * (5 : Int32))), .unset, .unset, .unset, .unset, .unset, .unset, .unset, .unset, .unset, .unset]) rfl ?_
    show Steps p.tables e below (s₁.setTop (mkF m 8 #[.val (.int p1), .val (.int p2), .val (.long q3), .second, .val (.long q4), .second, .val (.long q5), .second, .val (.long q6), .second, .val (.int ((p1 &&& (2147483647 : Int32)) - ((p1 &&& (2147483647 : Int32)) / (5 : Int32)) * (5 : Int32))), .unset, .unset, .unset, .unset, .unset, .unset, .unset, .unset, .unset, .unset] [])) _
    refine XS.iloadN X0.here hx rfl (hb hby at_8) rfl ?_
    show Steps p.tables e below (s₁.setTop (mkF m 9 #[.val (.int p1), .val (.int p2), .val (.long q3), .second, .val (.long q4), .second, .val (.long q5), .second, .val (.long q6), .second, .val (.int ((p1 &&& (2147483647 : Int32)) - ((p1 &&& (2147483647 : Int32)) / (5 : Int32)) * (5 : Int32))), .unset, .unset, .unset, .unset, .unset, .unset, .unset, .unset, .unset, .unset] [(.int p2)])) _
    refine XS.iconst X0.here hx rfl (hb hby at_9) ?_
    show Steps p.tables e below (s₁.setTop (mkF m 10 #[.val (.int p1), .val (.int p2), .val (.long q3), .second, .val (.long q4), .second, .val (.long q5), .second, .val (.long q6), .second, .val (.int ((p1 &&& (2147483647 : Int32)) - ((p1 &&& (2147483647 : Int32)) / (5 : Int32)) * (5 : Int32))), .unset, .unset, .unset, .unset, .unset, .unset, .unset, .unset, .unset, .unset] [(.int (0 : Int32)), (.int p2)])) _
    refine XS.lloadN X0.here hx rfl (hb hby at_10) rfl ?_
    show Steps p.tables e below (s₁.setTop (mkF m 11 #[.val (.int p1), .val (.int p2), .val (.long q3), .second, .val (.long q4), .second, .val (.long q5), .second, .val (.long q6), .second, .val (.int ((p1 &&& (2147483647 : Int32)) - ((p1 &&& (2147483647 : Int32)) / (5 : Int32)) * (5 : Int32))), .unset, .unset, .unset, .unset, .unset, .unset, .unset, .unset, .unset, .unset] [(.long q3), (.int (0 : Int32)), (.int p2)])) _
    refine st1 _ ?_
    show Steps p.tables e below (T1.setTop (mkF m 14 #[.val (.int p1), .val (.int p2), .val (.long q3), .second, .val (.long q4), .second, .val (.long q5), .second, .val (.long q6), .second, .val (.int ((p1 &&& (2147483647 : Int32)) - ((p1 &&& (2147483647 : Int32)) / (5 : Int32)) * (5 : Int32))), .unset, .unset, .unset, .unset, .unset, .unset, .unset, .unset, .unset, .unset] [(.long (own_pick p2 (0 : Int32) q3))])) _
    refine XS.lstore X1.here hx rfl (hb hby at_14) rfl (l' := #[.val (.int p1), .val (.int p2), .val (.long q3), .second, .val (.long q4), .second, .val (.long q5), .second, .val (.long q6), .second, .val (.int ((p1 &&& (2147483647 : Int32)) - ((p1 &&& (2147483647 : Int32)) / (5 : Int32)) * (5 : Int32))), .val (.long (own_pick p2 (0 : Int32) q3)), .second, .unset, .unset, .unset, .unset, .unset, .unset, .unset, .unset]) rfl ?_
    show Steps p.tables e below (T1.setTop (mkF m 16 #[.val (.int p1), .val (.int p2), .val (.long q3), .second, .val (.long q4), .second, .val (.long q5), .second, .val (.long q6), .second, .val (.int ((p1 &&& (2147483647 : Int32)) - ((p1 &&& (2147483647 : Int32)) / (5 : Int32)) * (5 : Int32))), .val (.long (own_pick p2 (0 : Int32) q3)), .second, .unset, .unset, .unset, .unset, .unset, .unset, .unset, .unset] [])) _
    refine XS.iloadN X1.here hx rfl (hb hby at_16) rfl ?_
    show Steps p.tables e below (T1.setTop (mkF m 17 #[.val (.int p1), .val (.int p2), .val (.long q3), .second, .val (.long q4), .second, .val (.long q5), .second, .val (.long q6), .second, .val (.int ((p1 &&& (2147483647 : Int32)) - ((p1 &&& (2147483647 : Int32)) / (5 : Int32)) * (5 : Int32))), .val (.long (own_pick p2 (0 : Int32) q3)), .second, .unset, .unset, .unset, .unset, .unset, .unset, .unset, .unset] [(.int p2)])) _
    refine XS.iconst X1.here hx rfl (hb hby at_17) ?_
    show Steps p.tables e below (T1.setTop (mkF m 18 #[.val (.int p1), .val (.int p2), .val (.long q3), .second, .val (.long q4), .second, .val (.long q5), .second, .val (.long q6), .second, .val (.int ((p1 &&& (2147483647 : Int32)) - ((p1 &&& (2147483647 : Int32)) / (5 : Int32)) * (5 : Int32))), .val (.long (own_pick p2 (0 : Int32) q3)), .second, .unset, .unset, .unset, .unset, .unset, .unset, .unset, .unset] [(.int (1 : Int32)), (.int p2)])) _
    refine XS.lload X1.here hx rfl (hb hby at_18) rfl ?_
    show Steps p.tables e below (T1.setTop (mkF m 20 #[.val (.int p1), .val (.int p2), .val (.long q3), .second, .val (.long q4), .second, .val (.long q5), .second, .val (.long q6), .second, .val (.int ((p1 &&& (2147483647 : Int32)) - ((p1 &&& (2147483647 : Int32)) / (5 : Int32)) * (5 : Int32))), .val (.long (own_pick p2 (0 : Int32) q3)), .second, .unset, .unset, .unset, .unset, .unset, .unset, .unset, .unset] [(.long q4), (.int (1 : Int32)), (.int p2)])) _
    refine st2 _ ?_
    show Steps p.tables e below (T2.setTop (mkF m 23 #[.val (.int p1), .val (.int p2), .val (.long q3), .second, .val (.long q4), .second, .val (.long q5), .second, .val (.long q6), .second, .val (.int ((p1 &&& (2147483647 : Int32)) - ((p1 &&& (2147483647 : Int32)) / (5 : Int32)) * (5 : Int32))), .val (.long (own_pick p2 (0 : Int32) q3)), .second, .unset, .unset, .unset, .unset, .unset, .unset, .unset, .unset] [(.long (own_pick p2 (1 : Int32) q4))])) _
    refine XS.lstore X2.here hx rfl (hb hby at_23) rfl (l' := #[.val (.int p1), .val (.int p2), .val (.long q3), .second, .val (.long q4), .second, .val (.long q5), .second, .val (.long q6), .second, .val (.int ((p1 &&& (2147483647 : Int32)) - ((p1 &&& (2147483647 : Int32)) / (5 : Int32)) * (5 : Int32))), .val (.long (own_pick p2 (0 : Int32) q3)), .second, .val (.long (own_pick p2 (1 : Int32) q4)), .second, .unset, .unset, .unset, .unset, .unset, .unset]) rfl ?_
    show Steps p.tables e below (T2.setTop (mkF m 25 #[.val (.int p1), .val (.int p2), .val (.long q3), .second, .val (.long q4), .second, .val (.long q5), .second, .val (.long q6), .second, .val (.int ((p1 &&& (2147483647 : Int32)) - ((p1 &&& (2147483647 : Int32)) / (5 : Int32)) * (5 : Int32))), .val (.long (own_pick p2 (0 : Int32) q3)), .second, .val (.long (own_pick p2 (1 : Int32) q4)), .second, .unset, .unset, .unset, .unset, .unset, .unset] [])) _
    refine XS.iloadN X2.here hx rfl (hb hby at_25) rfl ?_
    show Steps p.tables e below (T2.setTop (mkF m 26 #[.val (.int p1), .val (.int p2), .val (.long q3), .second, .val (.long q4), .second, .val (.long q5), .second, .val (.long q6), .second, .val (.int ((p1 &&& (2147483647 : Int32)) - ((p1 &&& (2147483647 : Int32)) / (5 : Int32)) * (5 : Int32))), .val (.long (own_pick p2 (0 : Int32) q3)), .second, .val (.long (own_pick p2 (1 : Int32) q4)), .second, .unset, .unset, .unset, .unset, .unset, .unset] [(.int p2)])) _
    refine XS.iconst X2.here hx rfl (hb hby at_26) ?_
    show Steps p.tables e below (T2.setTop (mkF m 27 #[.val (.int p1), .val (.int p2), .val (.long q3), .second, .val (.long q4), .second, .val (.long q5), .second, .val (.long q6), .second, .val (.int ((p1 &&& (2147483647 : Int32)) - ((p1 &&& (2147483647 : Int32)) / (5 : Int32)) * (5 : Int32))), .val (.long (own_pick p2 (0 : Int32) q3)), .second, .val (.long (own_pick p2 (1 : Int32) q4)), .second, .unset, .unset, .unset, .unset, .unset, .unset] [(.int (2 : Int32)), (.int p2)])) _
    refine XS.lload X2.here hx rfl (hb hby at_27) rfl ?_
    show Steps p.tables e below (T2.setTop (mkF m 29 #[.val (.int p1), .val (.int p2), .val (.long q3), .second, .val (.long q4), .second, .val (.long q5), .second, .val (.long q6), .second, .val (.int ((p1 &&& (2147483647 : Int32)) - ((p1 &&& (2147483647 : Int32)) / (5 : Int32)) * (5 : Int32))), .val (.long (own_pick p2 (0 : Int32) q3)), .second, .val (.long (own_pick p2 (1 : Int32) q4)), .second, .unset, .unset, .unset, .unset, .unset, .unset] [(.long q5), (.int (2 : Int32)), (.int p2)])) _
    refine st3 _ ?_
    show Steps p.tables e below (T3.setTop (mkF m 32 #[.val (.int p1), .val (.int p2), .val (.long q3), .second, .val (.long q4), .second, .val (.long q5), .second, .val (.long q6), .second, .val (.int ((p1 &&& (2147483647 : Int32)) - ((p1 &&& (2147483647 : Int32)) / (5 : Int32)) * (5 : Int32))), .val (.long (own_pick p2 (0 : Int32) q3)), .second, .val (.long (own_pick p2 (1 : Int32) q4)), .second, .unset, .unset, .unset, .unset, .unset, .unset] [(.long (own_pick p2 (2 : Int32) q5))])) _
    refine XS.lstore X3.here hx rfl (hb hby at_32) rfl (l' := #[.val (.int p1), .val (.int p2), .val (.long q3), .second, .val (.long q4), .second, .val (.long q5), .second, .val (.long q6), .second, .val (.int ((p1 &&& (2147483647 : Int32)) - ((p1 &&& (2147483647 : Int32)) / (5 : Int32)) * (5 : Int32))), .val (.long (own_pick p2 (0 : Int32) q3)), .second, .val (.long (own_pick p2 (1 : Int32) q4)), .second, .val (.long (own_pick p2 (2 : Int32) q5)), .second, .unset, .unset, .unset, .unset]) rfl ?_
    show Steps p.tables e below (T3.setTop (mkF m 34 #[.val (.int p1), .val (.int p2), .val (.long q3), .second, .val (.long q4), .second, .val (.long q5), .second, .val (.long q6), .second, .val (.int ((p1 &&& (2147483647 : Int32)) - ((p1 &&& (2147483647 : Int32)) / (5 : Int32)) * (5 : Int32))), .val (.long (own_pick p2 (0 : Int32) q3)), .second, .val (.long (own_pick p2 (1 : Int32) q4)), .second, .val (.long (own_pick p2 (2 : Int32) q5)), .second, .unset, .unset, .unset, .unset] [])) _
    refine XS.iloadN X3.here hx rfl (hb hby at_34) rfl ?_
    show Steps p.tables e below (T3.setTop (mkF m 35 #[.val (.int p1), .val (.int p2), .val (.long q3), .second, .val (.long q4), .second, .val (.long q5), .second, .val (.long q6), .second, .val (.int ((p1 &&& (2147483647 : Int32)) - ((p1 &&& (2147483647 : Int32)) / (5 : Int32)) * (5 : Int32))), .val (.long (own_pick p2 (0 : Int32) q3)), .second, .val (.long (own_pick p2 (1 : Int32) q4)), .second, .val (.long (own_pick p2 (2 : Int32) q5)), .second, .unset, .unset, .unset, .unset] [(.int p2)])) _
    refine XS.iconst X3.here hx rfl (hb hby at_35) ?_
    show Steps p.tables e below (T3.setTop (mkF m 36 #[.val (.int p1), .val (.int p2), .val (.long q3), .second, .val (.long q4), .second, .val (.long q5), .second, .val (.long q6), .second, .val (.int ((p1 &&& (2147483647 : Int32)) - ((p1 &&& (2147483647 : Int32)) / (5 : Int32)) * (5 : Int32))), .val (.long (own_pick p2 (0 : Int32) q3)), .second, .val (.long (own_pick p2 (1 : Int32) q4)), .second, .val (.long (own_pick p2 (2 : Int32) q5)), .second, .unset, .unset, .unset, .unset] [(.int (3 : Int32)), (.int p2)])) _
    refine XS.lload X3.here hx rfl (hb hby at_36) rfl ?_
    show Steps p.tables e below (T3.setTop (mkF m 38 #[.val (.int p1), .val (.int p2), .val (.long q3), .second, .val (.long q4), .second, .val (.long q5), .second, .val (.long q6), .second, .val (.int ((p1 &&& (2147483647 : Int32)) - ((p1 &&& (2147483647 : Int32)) / (5 : Int32)) * (5 : Int32))), .val (.long (own_pick p2 (0 : Int32) q3)), .second, .val (.long (own_pick p2 (1 : Int32) q4)), .second, .val (.long (own_pick p2 (2 : Int32) q5)), .second, .unset, .unset, .unset, .unset] [(.long q6), (.int (3 : Int32)), (.int p2)])) _
    refine st4 _ ?_
    show Steps p.tables e below (T4.setTop (mkF m 41 #[.val (.int p1), .val (.int p2), .val (.long q3), .second, .val (.long q4), .second, .val (.long q5), .second, .val (.long q6), .second, .val (.int ((p1 &&& (2147483647 : Int32)) - ((p1 &&& (2147483647 : Int32)) / (5 : Int32)) * (5 : Int32))), .val (.long (own_pick p2 (0 : Int32) q3)), .second, .val (.long (own_pick p2 (1 : Int32) q4)), .second, .val (.long (own_pick p2 (2 : Int32) q5)), .second, .unset, .unset, .unset, .unset] [(.long (own_pick p2 (3 : Int32) q6))])) _
    refine XS.lstore X4.here hx rfl (hb hby at_41) rfl (l' := #[.val (.int p1), .val (.int p2), .val (.long q3), .second, .val (.long q4), .second, .val (.long q5), .second, .val (.long q6), .second, .val (.int ((p1 &&& (2147483647 : Int32)) - ((p1 &&& (2147483647 : Int32)) / (5 : Int32)) * (5 : Int32))), .val (.long (own_pick p2 (0 : Int32) q3)), .second, .val (.long (own_pick p2 (1 : Int32) q4)), .second, .val (.long (own_pick p2 (2 : Int32) q5)), .second, .val (.long (own_pick p2 (3 : Int32) q6)), .second, .unset, .unset]) rfl ?_
    exact kt
  rcases own_n p1 with hk | hk | hk | hk | hk
  · rw [hk] at c5
    obtain ⟨T6, h6, k6, X6, e6, E6, A6, st6⟩ := newP X4 hx hZ (hw _ (List.mem_of_getElem? (i := 6) rfl)) e4 (g := (mkF m 45 #[.val (.int p1), .val (.int p2), .val (.long q3), .second, .val (.long q4), .second, .val (.long q5), .second, .val (.long q6), .second, .val (.int (0 : Int32)), .val (.long (own_pick p2 (0 : Int32) q3)), .second, .val (.long (own_pick p2 (1 : Int32) q4)), .second, .val (.long (own_pick p2 (2 : Int32) q5)), .second, .val (.long (own_pick p2 (3 : Int32) q6)), .second, .unset, .unset] [(.int (0 : Int32))])) rfl (hb hby at_45) rfl (by decide) (cap := 0) (by decide) (by decide) (by decide) (by decide)
    obtain ⟨b6, g6⟩ : ∃ z, z = h0.size := ⟨_, rfl⟩
    rw [← g6] at A6 st6
    have g_b6 : n0 ≤ b6 := Nat.le_trans Z0 (Nat.le_of_eq g6.symm)
    have Z6 : n0 ≤ h6.size := Nat.le_trans Z0 E6.1
    have V6 : Arv Z h6 b6 k6 .long (0 : Int32) [] (.long (0 : Int64)) := Arv.new A6 (by decide)
    have sg96k0 : ∀ t, Steps p.tables e below (T6.setTop (mkF m 153 #[.val (.int p1), .val (.int p2), .val (.long q3), .second, .val (.long q4), .second, .val (.long q5), .second, .val (.long q6), .second, .val (.int (0 : Int32)), .val (.long (own_pick p2 (0 : Int32) q3)), .second, .val (.long (own_pick p2 (1 : Int32) q4)), .second, .val (.long (own_pick p2 (2 : Int32) q5)), .second, .val (.long (own_pick p2 (3 : Int32) q6)), .second, .val (.ref b6), .unset] [(.int (1 : Int32))])) t → Steps p.tables e below (T6.setTop (mkF m 96 #[.val (.int p1), .val (.int p2), .val (.long q3), .second, .val (.long q4), .second, .val (.long q5), .second, .val (.long q6), .second, .val (.int (0 : Int32)), .val (.long (own_pick p2 (0 : Int32) q3)), .second, .val (.long (own_pick p2 (1 : Int32) q4)), .second, .val (.long (own_pick p2 (2 : Int32) q5)), .second, .val (.long (own_pick p2 (3 : Int32) q6)), .second, .val (.ref b6), .unset] [])) t := fun t kt => by
      show Steps p.tables e below (T6.setTop (mkF m 96 #[.val (.int p1), .val (.int p2), .val (.long q3), .second, .val (.long q4), .second, .val (.long q5), .second, .val (.long q6), .second, .val (.int (0 : Int32)), .val (.long (own_pick p2 (0 : Int32) q3)), .second, .val (.long (own_pick p2 (1 : Int32) q4)), .second, .val (.long (own_pick p2 (2 : Int32) q5)), .second, .val (.long (own_pick p2 (3 : Int32) q6)), .second, .val (.ref b6), .unset] [])) _
      refine XS.iload X6.here hx rfl (hb hby at_96) rfl ?_
      show Steps p.tables e below (T6.setTop (mkF m 98 #[.val (.int p1), .val (.int p2), .val (.long q3), .second, .val (.long q4), .second, .val (.long q5), .second, .val (.long q6), .second, .val (.int (0 : Int32)), .val (.long (own_pick p2 (0 : Int32) q3)), .second, .val (.long (own_pick p2 (1 : Int32) q4)), .second, .val (.long (own_pick p2 (2 : Int32) q5)), .second, .val (.long (own_pick p2 (3 : Int32) q6)), .second, .val (.ref b6), .unset] [(.int (0 : Int32))])) _
      refine XS.iconst X6.here hx rfl (hb hby at_98) ?_
      show Steps p.tables e below (T6.setTop (mkF m 99 #[.val (.int p1), .val (.int p2), .val (.long q3), .second, .val (.long q4), .second, .val (.long q5), .second, .val (.long q6), .second, .val (.int (0 : Int32)), .val (.long (own_pick p2 (0 : Int32) q3)), .second, .val (.long (own_pick p2 (1 : Int32) q4)), .second, .val (.long (own_pick p2 (2 : Int32) q5)), .second, .val (.long (own_pick p2 (3 : Int32) q6)), .second, .val (.ref b6), .unset] [(.int (1 : Int32)), (.int (0 : Int32))])) _
      refine XS.icmpYes X6.here hx rfl (pc0 := 99) (pc' := 109) rfl (hb hby at_99) rfl (tlt (by decide)).1 (by decide) (by decide) ?_
      show Steps p.tables e below (T6.setTop (mkF m 109 #[.val (.int p1), .val (.int p2), .val (.long q3), .second, .val (.long q4), .second, .val (.long q5), .second, .val (.long q6), .second, .val (.int (0 : Int32)), .val (.long (own_pick p2 (0 : Int32) q3)), .second, .val (.long (own_pick p2 (1 : Int32) q4)), .second, .val (.long (own_pick p2 (2 : Int32) q5)), .second, .val (.long (own_pick p2 (3 : Int32) q6)), .second, .val (.ref b6), .unset] [])) _
      refine XS.iload X6.here hx rfl (hb hby at_109) rfl ?_
      show Steps p.tables e below (T6.setTop (mkF m 111 #[.val (.int p1), .val (.int p2), .val (.long q3), .second, .val (.long q4), .second, .val (.long q5), .second, .val (.long q6), .second, .val (.int (0 : Int32)), .val (.long (own_pick p2 (0 : Int32) q3)), .second, .val (.long (own_pick p2 (1 : Int32) q4)), .second, .val (.long (own_pick p2 (2 : Int32) q5)), .second, .val (.long (own_pick p2 (3 : Int32) q6)), .second, .val (.ref b6), .unset] [(.int (0 : Int32))])) _
      refine XS.iconst X6.here hx rfl (hb hby at_111) ?_
      show Steps p.tables e below (T6.setTop (mkF m 112 #[.val (.int p1), .val (.int p2), .val (.long q3), .second, .val (.long q4), .second, .val (.long q5), .second, .val (.long q6), .second, .val (.int (0 : Int32)), .val (.long (own_pick p2 (0 : Int32) q3)), .second, .val (.long (own_pick p2 (1 : Int32) q4)), .second, .val (.long (own_pick p2 (2 : Int32) q5)), .second, .val (.long (own_pick p2 (3 : Int32) q6)), .second, .val (.ref b6), .unset] [(.int (2 : Int32)), (.int (0 : Int32))])) _
      refine XS.icmpYes X6.here hx rfl (pc0 := 112) (pc' := 122) rfl (hb hby at_112) rfl (tlt (by decide)).1 (by decide) (by decide) ?_
      show Steps p.tables e below (T6.setTop (mkF m 122 #[.val (.int p1), .val (.int p2), .val (.long q3), .second, .val (.long q4), .second, .val (.long q5), .second, .val (.long q6), .second, .val (.int (0 : Int32)), .val (.long (own_pick p2 (0 : Int32) q3)), .second, .val (.long (own_pick p2 (1 : Int32) q4)), .second, .val (.long (own_pick p2 (2 : Int32) q5)), .second, .val (.long (own_pick p2 (3 : Int32) q6)), .second, .val (.ref b6), .unset] [])) _
      refine XS.iload X6.here hx rfl (hb hby at_122) rfl ?_
      show Steps p.tables e below (T6.setTop (mkF m 124 #[.val (.int p1), .val (.int p2), .val (.long q3), .second, .val (.long q4), .second, .val (.long q5), .second, .val (.long q6), .second, .val (.int (0 : Int32)), .val (.long (own_pick p2 (0 : Int32) q3)), .second, .val (.long (own_pick p2 (1 : Int32) q4)), .second, .val (.long (own_pick p2 (2 : Int32) q5)), .second, .val (.long (own_pick p2 (3 : Int32) q6)), .second, .val (.ref b6), .unset] [(.int (0 : Int32))])) _
      refine XS.iconst X6.here hx rfl (hb hby at_124) ?_
      show Steps p.tables e below (T6.setTop (mkF m 125 #[.val (.int p1), .val (.int p2), .val (.long q3), .second, .val (.long q4), .second, .val (.long q5), .second, .val (.long q6), .second, .val (.int (0 : Int32)), .val (.long (own_pick p2 (0 : Int32) q3)), .second, .val (.long (own_pick p2 (1 : Int32) q4)), .second, .val (.long (own_pick p2 (2 : Int32) q5)), .second, .val (.long (own_pick p2 (3 : Int32) q6)), .second, .val (.ref b6), .unset] [(.int (3 : Int32)), (.int (0 : Int32))])) _
      refine XS.icmpYes X6.here hx rfl (pc0 := 125) (pc' := 135) rfl (hb hby at_125) rfl (tlt (by decide)).1 (by decide) (by decide) ?_
      show Steps p.tables e below (T6.setTop (mkF m 135 #[.val (.int p1), .val (.int p2), .val (.long q3), .second, .val (.long q4), .second, .val (.long q5), .second, .val (.long q6), .second, .val (.int (0 : Int32)), .val (.long (own_pick p2 (0 : Int32) q3)), .second, .val (.long (own_pick p2 (1 : Int32) q4)), .second, .val (.long (own_pick p2 (2 : Int32) q5)), .second, .val (.long (own_pick p2 (3 : Int32) q6)), .second, .val (.ref b6), .unset] [])) _
      refine XS.iload X6.here hx rfl (hb hby at_135) rfl ?_
      show Steps p.tables e below (T6.setTop (mkF m 137 #[.val (.int p1), .val (.int p2), .val (.long q3), .second, .val (.long q4), .second, .val (.long q5), .second, .val (.long q6), .second, .val (.int (0 : Int32)), .val (.long (own_pick p2 (0 : Int32) q3)), .second, .val (.long (own_pick p2 (1 : Int32) q4)), .second, .val (.long (own_pick p2 (2 : Int32) q5)), .second, .val (.long (own_pick p2 (3 : Int32) q6)), .second, .val (.ref b6), .unset] [(.int (0 : Int32))])) _
      refine XS.iconst X6.here hx rfl (hb hby at_137) ?_
      show Steps p.tables e below (T6.setTop (mkF m 138 #[.val (.int p1), .val (.int p2), .val (.long q3), .second, .val (.long q4), .second, .val (.long q5), .second, .val (.long q6), .second, .val (.int (0 : Int32)), .val (.long (own_pick p2 (0 : Int32) q3)), .second, .val (.long (own_pick p2 (1 : Int32) q4)), .second, .val (.long (own_pick p2 (2 : Int32) q5)), .second, .val (.long (own_pick p2 (3 : Int32) q6)), .second, .val (.ref b6), .unset] [(.int (4 : Int32)), (.int (0 : Int32))])) _
      refine XS.icmpYes X6.here hx rfl (pc0 := 138) (pc' := 148) rfl (hb hby at_138) rfl (tlt (by decide)).1 (by decide) (by decide) ?_
      show Steps p.tables e below (T6.setTop (mkF m 148 #[.val (.int p1), .val (.int p2), .val (.long q3), .second, .val (.long q4), .second, .val (.long q5), .second, .val (.long q6), .second, .val (.int (0 : Int32)), .val (.long (own_pick p2 (0 : Int32) q3)), .second, .val (.long (own_pick p2 (1 : Int32) q4)), .second, .val (.long (own_pick p2 (2 : Int32) q5)), .second, .val (.long (own_pick p2 (3 : Int32) q6)), .second, .val (.ref b6), .unset] [])) _
      refine XS.iconst X6.here hx rfl (hb hby at_148) ?_
      show Steps p.tables e below (T6.setTop (mkF m 149 #[.val (.int p1), .val (.int p2), .val (.long q3), .second, .val (.long q4), .second, .val (.long q5), .second, .val (.long q6), .second, .val (.int (0 : Int32)), .val (.long (own_pick p2 (0 : Int32) q3)), .second, .val (.long (own_pick p2 (1 : Int32) q4)), .second, .val (.long (own_pick p2 (2 : Int32) q5)), .second, .val (.long (own_pick p2 (3 : Int32) q6)), .second, .val (.ref b6), .unset] [(.int (1 : Int32))])) _
      refine XS.goto X6.here hx rfl (pc0 := 149) (pc' := 153) rfl (hb hby at_149) (by decide) (by decide) ?_
      exact kt
    obtain ⟨_, _, ⟨T7, L7, k7, n7⟩, -, X7, ⟨Lc7, hQ7, l7, y7, z7⟩, st7⟩ := Jvm.LawKit.callS X6 hx (y := (⟨"com/example/vestline/vestline/ProRata", "noWeight", "([J)Z"⟩ : MethodName)) hown (mvT hZ (hw _ (List.mem_of_getElem? (i := 7) rfl))) (mvT hZ (hw _ (List.mem_of_getElem? (i := 8) rfl))) (mvT hZ (hw _ (List.mem_of_getElem? (i := 9) rfl))) (mvT hZ (hw _ (List.mem_of_getElem? (i := 10) rfl))) (by decide) (backOf (W := 0) (rm2n0 l Z a0 hw [] b6 k6 h6 n0 Z6 V6) hZ (hw _ (List.mem_of_getElem? (i := 10) rfl)) (hw _ (List.mem_of_getElem? (i := 9) rfl)) (by decide) (by decide)) (g := (mkF m 157 #[.val (.int p1), .val (.int p2), .val (.long q3), .second, .val (.long q4), .second, .val (.long q5), .second, .val (.long q6), .second, .val (.int (0 : Int32)), .val (.long (own_pick p2 (0 : Int32) q3)), .second, .val (.long (own_pick p2 (1 : Int32) q4)), .second, .val (.long (own_pick p2 (2 : Int32) q5)), .second, .val (.long (own_pick p2 (3 : Int32) q6)), .second, .val (.ref b6), .val (.int (1 : Int32))] [(.ref b6)])) rfl (by rw [hml]; rfl) (argsL := [(.ref b6)]) (rest := []) (lenOf pd0_1 rfl) rfl (by show 2 * 0 + _ ≤ _; exact Nat.le_of_eq rfl) (hb hby at_157) (fun _ _ => ⟨rfl, e6, (by decide : 1 + 0 ≤ _), (by decide : 0 + 0 ≤ _)⟩)
    dsimp only [Pt.U, Pt.locs, Pt.cells, Pt.slots] at X7 l7 y7 z7 st7 hQ7
    subst l7 y7 z7
    obtain ⟨rfl, N7q, e7⟩ := hQ7
    have N7 := Fr.app N4 N7q
    obtain ⟨fs, hr, hrun, hended, hW, hsame⟩ := X7.leave (v := some (.int (1 : Int32))) (fun h => by rw [Bd.returns] at h; cases h)
    refine ⟨_, _, c5 _ ?_, hrun, hended, _, _, rfl, ?_, ⟨_, rfl⟩, hW, hsame.mono (by decide) (by decide)⟩
    · show Steps p.tables e below (T4.setTop (mkF m 43 #[.val (.int p1), .val (.int p2), .val (.long q3), .second, .val (.long q4), .second, .val (.long q5), .second, .val (.long q6), .second, .val (.int (0 : Int32)), .val (.long (own_pick p2 (0 : Int32) q3)), .second, .val (.long (own_pick p2 (1 : Int32) q4)), .second, .val (.long (own_pick p2 (2 : Int32) q5)), .second, .val (.long (own_pick p2 (3 : Int32) q6)), .second, .unset, .unset] [])) _
      refine XS.iload X4.here hx rfl (hb hby at_43) rfl ?_
      show Steps p.tables e below (T4.setTop (mkF m 45 #[.val (.int p1), .val (.int p2), .val (.long q3), .second, .val (.long q4), .second, .val (.long q5), .second, .val (.long q6), .second, .val (.int (0 : Int32)), .val (.long (own_pick p2 (0 : Int32) q3)), .second, .val (.long (own_pick p2 (1 : Int32) q4)), .second, .val (.long (own_pick p2 (2 : Int32) q5)), .second, .val (.long (own_pick p2 (3 : Int32) q6)), .second, .unset, .unset] [(.int (0 : Int32))])) _
      refine st6 _ ?_
      show Steps p.tables e below (T6.setTop (mkF m 47 #[.val (.int p1), .val (.int p2), .val (.long q3), .second, .val (.long q4), .second, .val (.long q5), .second, .val (.long q6), .second, .val (.int (0 : Int32)), .val (.long (own_pick p2 (0 : Int32) q3)), .second, .val (.long (own_pick p2 (1 : Int32) q4)), .second, .val (.long (own_pick p2 (2 : Int32) q5)), .second, .val (.long (own_pick p2 (3 : Int32) q6)), .second, .unset, .unset] [(.ref b6)])) _
      refine XS.astore X6.here hx rfl (hb hby at_47) rfl rfl (l' := #[.val (.int p1), .val (.int p2), .val (.long q3), .second, .val (.long q4), .second, .val (.long q5), .second, .val (.long q6), .second, .val (.int (0 : Int32)), .val (.long (own_pick p2 (0 : Int32) q3)), .second, .val (.long (own_pick p2 (1 : Int32) q4)), .second, .val (.long (own_pick p2 (2 : Int32) q5)), .second, .val (.long (own_pick p2 (3 : Int32) q6)), .second, .val (.ref b6), .unset]) rfl ?_
      show Steps p.tables e below (T6.setTop (mkF m 49 #[.val (.int p1), .val (.int p2), .val (.long q3), .second, .val (.long q4), .second, .val (.long q5), .second, .val (.long q6), .second, .val (.int (0 : Int32)), .val (.long (own_pick p2 (0 : Int32) q3)), .second, .val (.long (own_pick p2 (1 : Int32) q4)), .second, .val (.long (own_pick p2 (2 : Int32) q5)), .second, .val (.long (own_pick p2 (3 : Int32) q6)), .second, .val (.ref b6), .unset] [])) _
      refine XS.iload X6.here hx rfl (hb hby at_49) rfl ?_
      show Steps p.tables e below (T6.setTop (mkF m 51 #[.val (.int p1), .val (.int p2), .val (.long q3), .second, .val (.long q4), .second, .val (.long q5), .second, .val (.long q6), .second, .val (.int (0 : Int32)), .val (.long (own_pick p2 (0 : Int32) q3)), .second, .val (.long (own_pick p2 (1 : Int32) q4)), .second, .val (.long (own_pick p2 (2 : Int32) q5)), .second, .val (.long (own_pick p2 (3 : Int32) q6)), .second, .val (.ref b6), .unset] [(.int (0 : Int32))])) _
      refine XS.ifYes X6.here hx rfl (pc0 := 51) (pc' := 60) rfl (hb hby at_51) rfl ((if0 _ _).trans (flt (by decide)).2.2.2) (by decide) (by decide) ?_
      show Steps p.tables e below (T6.setTop (mkF m 60 #[.val (.int p1), .val (.int p2), .val (.long q3), .second, .val (.long q4), .second, .val (.long q5), .second, .val (.long q6), .second, .val (.int (0 : Int32)), .val (.long (own_pick p2 (0 : Int32) q3)), .second, .val (.long (own_pick p2 (1 : Int32) q4)), .second, .val (.long (own_pick p2 (2 : Int32) q5)), .second, .val (.long (own_pick p2 (3 : Int32) q6)), .second, .val (.ref b6), .unset] [])) _
      refine XS.iload X6.here hx rfl (hb hby at_60) rfl ?_
      show Steps p.tables e below (T6.setTop (mkF m 62 #[.val (.int p1), .val (.int p2), .val (.long q3), .second, .val (.long q4), .second, .val (.long q5), .second, .val (.long q6), .second, .val (.int (0 : Int32)), .val (.long (own_pick p2 (0 : Int32) q3)), .second, .val (.long (own_pick p2 (1 : Int32) q4)), .second, .val (.long (own_pick p2 (2 : Int32) q5)), .second, .val (.long (own_pick p2 (3 : Int32) q6)), .second, .val (.ref b6), .unset] [(.int (0 : Int32))])) _
      refine XS.iconst X6.here hx rfl (hb hby at_62) ?_
      show Steps p.tables e below (T6.setTop (mkF m 63 #[.val (.int p1), .val (.int p2), .val (.long q3), .second, .val (.long q4), .second, .val (.long q5), .second, .val (.long q6), .second, .val (.int (0 : Int32)), .val (.long (own_pick p2 (0 : Int32) q3)), .second, .val (.long (own_pick p2 (1 : Int32) q4)), .second, .val (.long (own_pick p2 (2 : Int32) q5)), .second, .val (.long (own_pick p2 (3 : Int32) q6)), .second, .val (.ref b6), .unset] [(.int (1 : Int32)), (.int (0 : Int32))])) _
      refine XS.icmpYes X6.here hx rfl (pc0 := 63) (pc' := 72) rfl (hb hby at_63) rfl (flt (by decide)).2.2.2 (by decide) (by decide) ?_
      show Steps p.tables e below (T6.setTop (mkF m 72 #[.val (.int p1), .val (.int p2), .val (.long q3), .second, .val (.long q4), .second, .val (.long q5), .second, .val (.long q6), .second, .val (.int (0 : Int32)), .val (.long (own_pick p2 (0 : Int32) q3)), .second, .val (.long (own_pick p2 (1 : Int32) q4)), .second, .val (.long (own_pick p2 (2 : Int32) q5)), .second, .val (.long (own_pick p2 (3 : Int32) q6)), .second, .val (.ref b6), .unset] [])) _
      refine XS.iload X6.here hx rfl (hb hby at_72) rfl ?_
      show Steps p.tables e below (T6.setTop (mkF m 74 #[.val (.int p1), .val (.int p2), .val (.long q3), .second, .val (.long q4), .second, .val (.long q5), .second, .val (.long q6), .second, .val (.int (0 : Int32)), .val (.long (own_pick p2 (0 : Int32) q3)), .second, .val (.long (own_pick p2 (1 : Int32) q4)), .second, .val (.long (own_pick p2 (2 : Int32) q5)), .second, .val (.long (own_pick p2 (3 : Int32) q6)), .second, .val (.ref b6), .unset] [(.int (0 : Int32))])) _
      refine XS.iconst X6.here hx rfl (hb hby at_74) ?_
      show Steps p.tables e below (T6.setTop (mkF m 75 #[.val (.int p1), .val (.int p2), .val (.long q3), .second, .val (.long q4), .second, .val (.long q5), .second, .val (.long q6), .second, .val (.int (0 : Int32)), .val (.long (own_pick p2 (0 : Int32) q3)), .second, .val (.long (own_pick p2 (1 : Int32) q4)), .second, .val (.long (own_pick p2 (2 : Int32) q5)), .second, .val (.long (own_pick p2 (3 : Int32) q6)), .second, .val (.ref b6), .unset] [(.int (2 : Int32)), (.int (0 : Int32))])) _
      refine XS.icmpYes X6.here hx rfl (pc0 := 75) (pc' := 84) rfl (hb hby at_75) rfl (flt (by decide)).2.2.2 (by decide) (by decide) ?_
      show Steps p.tables e below (T6.setTop (mkF m 84 #[.val (.int p1), .val (.int p2), .val (.long q3), .second, .val (.long q4), .second, .val (.long q5), .second, .val (.long q6), .second, .val (.int (0 : Int32)), .val (.long (own_pick p2 (0 : Int32) q3)), .second, .val (.long (own_pick p2 (1 : Int32) q4)), .second, .val (.long (own_pick p2 (2 : Int32) q5)), .second, .val (.long (own_pick p2 (3 : Int32) q6)), .second, .val (.ref b6), .unset] [])) _
      refine XS.iload X6.here hx rfl (hb hby at_84) rfl ?_
      show Steps p.tables e below (T6.setTop (mkF m 86 #[.val (.int p1), .val (.int p2), .val (.long q3), .second, .val (.long q4), .second, .val (.long q5), .second, .val (.long q6), .second, .val (.int (0 : Int32)), .val (.long (own_pick p2 (0 : Int32) q3)), .second, .val (.long (own_pick p2 (1 : Int32) q4)), .second, .val (.long (own_pick p2 (2 : Int32) q5)), .second, .val (.long (own_pick p2 (3 : Int32) q6)), .second, .val (.ref b6), .unset] [(.int (0 : Int32))])) _
      refine XS.iconst X6.here hx rfl (hb hby at_86) ?_
      show Steps p.tables e below (T6.setTop (mkF m 87 #[.val (.int p1), .val (.int p2), .val (.long q3), .second, .val (.long q4), .second, .val (.long q5), .second, .val (.long q6), .second, .val (.int (0 : Int32)), .val (.long (own_pick p2 (0 : Int32) q3)), .second, .val (.long (own_pick p2 (1 : Int32) q4)), .second, .val (.long (own_pick p2 (2 : Int32) q5)), .second, .val (.long (own_pick p2 (3 : Int32) q6)), .second, .val (.ref b6), .unset] [(.int (3 : Int32)), (.int (0 : Int32))])) _
      refine XS.icmpYes X6.here hx rfl (pc0 := 87) (pc' := 96) rfl (hb hby at_87) rfl (flt (by decide)).2.2.2 (by decide) (by decide) ?_
      show Steps p.tables e below (T6.setTop (mkF m 96 #[.val (.int p1), .val (.int p2), .val (.long q3), .second, .val (.long q4), .second, .val (.long q5), .second, .val (.long q6), .second, .val (.int (0 : Int32)), .val (.long (own_pick p2 (0 : Int32) q3)), .second, .val (.long (own_pick p2 (1 : Int32) q4)), .second, .val (.long (own_pick p2 (2 : Int32) q5)), .second, .val (.long (own_pick p2 (3 : Int32) q6)), .second, .val (.ref b6), .unset] [])) _
      refine sg96k0 _ ?_
      show Steps p.tables e below (T6.setTop (mkF m 153 #[.val (.int p1), .val (.int p2), .val (.long q3), .second, .val (.long q4), .second, .val (.long q5), .second, .val (.long q6), .second, .val (.int (0 : Int32)), .val (.long (own_pick p2 (0 : Int32) q3)), .second, .val (.long (own_pick p2 (1 : Int32) q4)), .second, .val (.long (own_pick p2 (2 : Int32) q5)), .second, .val (.long (own_pick p2 (3 : Int32) q6)), .second, .val (.ref b6), .unset] [(.int (1 : Int32))])) _
      refine XS.istore X6.here hx rfl (hb hby at_153) rfl (l' := #[.val (.int p1), .val (.int p2), .val (.long q3), .second, .val (.long q4), .second, .val (.long q5), .second, .val (.long q6), .second, .val (.int (0 : Int32)), .val (.long (own_pick p2 (0 : Int32) q3)), .second, .val (.long (own_pick p2 (1 : Int32) q4)), .second, .val (.long (own_pick p2 (2 : Int32) q5)), .second, .val (.long (own_pick p2 (3 : Int32) q6)), .second, .val (.ref b6), .val (.int (1 : Int32))]) rfl ?_
      show Steps p.tables e below (T6.setTop (mkF m 155 #[.val (.int p1), .val (.int p2), .val (.long q3), .second, .val (.long q4), .second, .val (.long q5), .second, .val (.long q6), .second, .val (.int (0 : Int32)), .val (.long (own_pick p2 (0 : Int32) q3)), .second, .val (.long (own_pick p2 (1 : Int32) q4)), .second, .val (.long (own_pick p2 (2 : Int32) q5)), .second, .val (.long (own_pick p2 (3 : Int32) q6)), .second, .val (.ref b6), .val (.int (1 : Int32))] [])) _
      refine XS.aload X6.here hx rfl (hb hby at_155) rfl rfl ?_
      show Steps p.tables e below (T6.setTop (mkF m 157 #[.val (.int p1), .val (.int p2), .val (.long q3), .second, .val (.long q4), .second, .val (.long q5), .second, .val (.long q6), .second, .val (.int (0 : Int32)), .val (.long (own_pick p2 (0 : Int32) q3)), .second, .val (.long (own_pick p2 (1 : Int32) q4)), .second, .val (.long (own_pick p2 (2 : Int32) q5)), .second, .val (.long (own_pick p2 (3 : Int32) q6)), .second, .val (.ref b6), .val (.int (1 : Int32))] [(.ref b6)])) _
      refine st7 _ ?_
      show Steps p.tables e below (T7.setTop (mkF m 160 #[.val (.int p1), .val (.int p2), .val (.long q3), .second, .val (.long q4), .second, .val (.long q5), .second, .val (.long q6), .second, .val (.int (0 : Int32)), .val (.long (own_pick p2 (0 : Int32) q3)), .second, .val (.long (own_pick p2 (1 : Int32) q4)), .second, .val (.long (own_pick p2 (2 : Int32) q5)), .second, .val (.long (own_pick p2 (3 : Int32) q6)), .second, .val (.ref b6), .val (.int (1 : Int32))] [(.int (1 : Int32))])) _
      refine XS.iload X7.here hx rfl (hb hby at_160) rfl ?_
      show Steps p.tables e below (T7.setTop (mkF m 162 #[.val (.int p1), .val (.int p2), .val (.long q3), .second, .val (.long q4), .second, .val (.long q5), .second, .val (.long q6), .second, .val (.int (0 : Int32)), .val (.long (own_pick p2 (0 : Int32) q3)), .second, .val (.long (own_pick p2 (1 : Int32) q4)), .second, .val (.long (own_pick p2 (2 : Int32) q5)), .second, .val (.long (own_pick p2 (3 : Int32) q6)), .second, .val (.ref b6), .val (.int (1 : Int32))] [(.int (1 : Int32)), (.int (1 : Int32))])) _
      refine XS.icmpNo X7.here hx rfl (hb hby at_162) rfl (teq (by decide)).2 ?_
      show Steps p.tables e below (T7.setTop (mkF m 165 #[.val (.int p1), .val (.int p2), .val (.long q3), .second, .val (.long q4), .second, .val (.long q5), .second, .val (.long q6), .second, .val (.int (0 : Int32)), .val (.long (own_pick p2 (0 : Int32) q3)), .second, .val (.long (own_pick p2 (1 : Int32) q4)), .second, .val (.long (own_pick p2 (2 : Int32) q5)), .second, .val (.long (own_pick p2 (3 : Int32) q6)), .second, .val (.ref b6), .val (.int (1 : Int32))] [])) _
      refine XS.iconst X7.here hx rfl (hb hby at_165) ?_
      show Steps p.tables e below (T7.setTop (mkF m 166 #[.val (.int p1), .val (.int p2), .val (.long q3), .second, .val (.long q4), .second, .val (.long q5), .second, .val (.long q6), .second, .val (.int (0 : Int32)), .val (.long (own_pick p2 (0 : Int32) q3)), .second, .val (.long (own_pick p2 (1 : Int32) q4)), .second, .val (.long (own_pick p2 (2 : Int32) q5)), .second, .val (.long (own_pick p2 (3 : Int32) q6)), .second, .val (.ref b6), .val (.int (1 : Int32))] [(.int (1 : Int32))])) _
      refine XS.goto X7.here hx rfl (pc0 := 166) (pc' := 170) rfl (hb hby at_166) (by decide) (by decide) ?_
      show Steps p.tables e below (T7.setTop (mkF m 170 #[.val (.int p1), .val (.int p2), .val (.long q3), .second, .val (.long q4), .second, .val (.long q5), .second, .val (.long q6), .second, .val (.int (0 : Int32)), .val (.long (own_pick p2 (0 : Int32) q3)), .second, .val (.long (own_pick p2 (1 : Int32) q4)), .second, .val (.long (own_pick p2 (2 : Int32) q5)), .second, .val (.long (own_pick p2 (3 : Int32) q6)), .second, .val (.ref b6), .val (.int (1 : Int32))] [(.int (1 : Int32))])) _
      exact retN X7 hx (t := .boolean) Bd.returns (by simp) (hb hby at_170) hr
    · show Q0 Z p1 p2 q3 q4 q5 q6 h0 n0 _ T7.heap _
      rw [e7]
      exact ⟨rfl, N7⟩
  · rw [hk] at c5
    obtain ⟨T8, h8, k8, X8, e8, E8, A8, st8⟩ := newP X4 hx hZ (hw _ (List.mem_of_getElem? (i := 6) rfl)) e4 (g := (mkF m 45 #[.val (.int p1), .val (.int p2), .val (.long q3), .second, .val (.long q4), .second, .val (.long q5), .second, .val (.long q6), .second, .val (.int (1 : Int32)), .val (.long (own_pick p2 (0 : Int32) q3)), .second, .val (.long (own_pick p2 (1 : Int32) q4)), .second, .val (.long (own_pick p2 (2 : Int32) q5)), .second, .val (.long (own_pick p2 (3 : Int32) q6)), .second, .unset, .unset] [(.int (1 : Int32))])) rfl (hb hby at_45) rfl (by decide) (cap := 1) (by decide) (by decide) (by decide) (by decide)
    obtain ⟨b8, g8⟩ : ∃ z, z = h0.size := ⟨_, rfl⟩
    rw [← g8] at A8 st8
    have g_b8 : n0 ≤ b8 := Nat.le_trans Z0 (Nat.le_of_eq g8.symm)
    have Z8 : n0 ≤ h8.size := Nat.le_trans Z0 E8.1
    have V8 : Arv Z h8 b8 k8 .long (1 : Int32) [(.long (0 : Int64))] (.long (0 : Int64)) := (Arv.new A8 (by decide)).pad (pad_rep [] (.long (0 : Int64)) 1)
    have cp59_9 := V8
    obtain ⟨cl59_9, Ar59_9, qa59_9, Sa59_9, Na59_9, Ha59_9, Ga59_9⟩ := cp59_9
    have hin59_9 : ¬ ((0 : Int32) < 0 ∨ cl59_9.slots.size ≤ ((0 : Int32)).toNatClampNeg) := inb_of Sa59_9 ⟨by decide, by decide⟩
    obtain ⟨T10, h10, X10, e10, W10, st10⟩ := stJ X8 hx hZ e8 Ar59_9 (j := (0 : Int32)) hin59_9 (g := (mkF m 59 #[.val (.int p1), .val (.int p2), .val (.long q3), .second, .val (.long q4), .second, .val (.long q5), .second, .val (.long q6), .second, .val (.int (1 : Int32)), .val (.long (own_pick p2 (0 : Int32) q3)), .second, .val (.long (own_pick p2 (1 : Int32) q4)), .second, .val (.long (own_pick p2 (2 : Int32) q5)), .second, .val (.long (own_pick p2 (3 : Int32) q6)), .second, .val (.ref b8), .unset] [(.long (own_pick p2 (0 : Int32) q3)), (.int (0 : Int32)), (.ref b8)])) rfl rfl (hb hby at_59)
    have V10 : Arv Z h10 b8 k8 .long (1 : Int32) [(.long (own_pick p2 (0 : Int32) q3))] (.long (0 : Int64)) := Arv.set Ar59_9 qa59_9 Sa59_9 Na59_9 Ha59_9 Ga59_9 rfl W10 0 rfl (Nat.le_of_ble_eq_true rfl)
    have N10 := Fr.snoc X10 N4 g_b8
    have Z10 : n0 ≤ h10.size := Nat.le_trans Z8 (Keep.of_wr W10).1
    obtain ⟨j96_S0k1, ej96_S0k1⟩ : ∃ z : Int32, z = (if (own_pick p2 (0 : Int32) q3) = (0 : Int64) then (1 : Int32) else (0 : Int32)) := ⟨_, rfl⟩
    have sg96k1 : ∀ t, Steps p.tables e below (T10.setTop (mkF m 153 #[.val (.int p1), .val (.int p2), .val (.long q3), .second, .val (.long q4), .second, .val (.long q5), .second, .val (.long q6), .second, .val (.int (1 : Int32)), .val (.long (own_pick p2 (0 : Int32) q3)), .second, .val (.long (own_pick p2 (1 : Int32) q4)), .second, .val (.long (own_pick p2 (2 : Int32) q5)), .second, .val (.long (own_pick p2 (3 : Int32) q6)), .second, .val (.ref b8), .unset] [(.int j96_S0k1)])) t → Steps p.tables e below (T10.setTop (mkF m 96 #[.val (.int p1), .val (.int p2), .val (.long q3), .second, .val (.long q4), .second, .val (.long q5), .second, .val (.long q6), .second, .val (.int (1 : Int32)), .val (.long (own_pick p2 (0 : Int32) q3)), .second, .val (.long (own_pick p2 (1 : Int32) q4)), .second, .val (.long (own_pick p2 (2 : Int32) q5)), .second, .val (.long (own_pick p2 (3 : Int32) q6)), .second, .val (.ref b8), .unset] [])) t := fun t kt => by
      show Steps p.tables e below (T10.setTop (mkF m 96 #[.val (.int p1), .val (.int p2), .val (.long q3), .second, .val (.long q4), .second, .val (.long q5), .second, .val (.long q6), .second, .val (.int (1 : Int32)), .val (.long (own_pick p2 (0 : Int32) q3)), .second, .val (.long (own_pick p2 (1 : Int32) q4)), .second, .val (.long (own_pick p2 (2 : Int32) q5)), .second, .val (.long (own_pick p2 (3 : Int32) q6)), .second, .val (.ref b8), .unset] [])) _
      refine XS.iload X10.here hx rfl (hb hby at_96) rfl ?_
      show Steps p.tables e below (T10.setTop (mkF m 98 #[.val (.int p1), .val (.int p2), .val (.long q3), .second, .val (.long q4), .second, .val (.long q5), .second, .val (.long q6), .second, .val (.int (1 : Int32)), .val (.long (own_pick p2 (0 : Int32) q3)), .second, .val (.long (own_pick p2 (1 : Int32) q4)), .second, .val (.long (own_pick p2 (2 : Int32) q5)), .second, .val (.long (own_pick p2 (3 : Int32) q6)), .second, .val (.ref b8), .unset] [(.int (1 : Int32))])) _
      refine XS.iconst X10.here hx rfl (hb hby at_98) ?_
      show Steps p.tables e below (T10.setTop (mkF m 99 #[.val (.int p1), .val (.int p2), .val (.long q3), .second, .val (.long q4), .second, .val (.long q5), .second, .val (.long q6), .second, .val (.int (1 : Int32)), .val (.long (own_pick p2 (0 : Int32) q3)), .second, .val (.long (own_pick p2 (1 : Int32) q4)), .second, .val (.long (own_pick p2 (2 : Int32) q5)), .second, .val (.long (own_pick p2 (3 : Int32) q6)), .second, .val (.ref b8), .unset] [(.int (1 : Int32)), (.int (1 : Int32))])) _
      refine XS.icmpNo X10.here hx rfl (hb hby at_99) rfl (flt (by decide)).1 ?_
      show Steps p.tables e below (T10.setTop (mkF m 102 #[.val (.int p1), .val (.int p2), .val (.long q3), .second, .val (.long q4), .second, .val (.long q5), .second, .val (.long q6), .second, .val (.int (1 : Int32)), .val (.long (own_pick p2 (0 : Int32) q3)), .second, .val (.long (own_pick p2 (1 : Int32) q4)), .second, .val (.long (own_pick p2 (2 : Int32) q5)), .second, .val (.long (own_pick p2 (3 : Int32) q6)), .second, .val (.ref b8), .unset] [])) _
      refine XS.lload X10.here hx rfl (hb hby at_102) rfl ?_
      show Steps p.tables e below (T10.setTop (mkF m 104 #[.val (.int p1), .val (.int p2), .val (.long q3), .second, .val (.long q4), .second, .val (.long q5), .second, .val (.long q6), .second, .val (.int (1 : Int32)), .val (.long (own_pick p2 (0 : Int32) q3)), .second, .val (.long (own_pick p2 (1 : Int32) q4)), .second, .val (.long (own_pick p2 (2 : Int32) q5)), .second, .val (.long (own_pick p2 (3 : Int32) q6)), .second, .val (.ref b8), .unset] [(.long (own_pick p2 (0 : Int32) q3))])) _
      refine XS.lconst X10.here hx rfl (hb hby at_104) ?_
      show Steps p.tables e below (T10.setTop (mkF m 105 #[.val (.int p1), .val (.int p2), .val (.long q3), .second, .val (.long q4), .second, .val (.long q5), .second, .val (.long q6), .second, .val (.int (1 : Int32)), .val (.long (own_pick p2 (0 : Int32) q3)), .second, .val (.long (own_pick p2 (1 : Int32) q4)), .second, .val (.long (own_pick p2 (2 : Int32) q5)), .second, .val (.long (own_pick p2 (3 : Int32) q6)), .second, .val (.ref b8), .unset] [(.long (0 : Int64)), (.long (own_pick p2 (0 : Int32) q3))])) _
      refine XS.lcmp X10.here hx rfl (hb hby at_105) rfl ?_
      by_cases hc106 : (own_pick p2 (0 : Int32) q3) = (0 : Int64)
      · have qj96_S0k1 : j96_S0k1 = (1 : Int32) := by rw [ej96_S0k1, if_pos hc106]
        rw [qj96_S0k1] at kt
        show Steps p.tables e below (T10.setTop (mkF m 106 #[.val (.int p1), .val (.int p2), .val (.long q3), .second, .val (.long q4), .second, .val (.long q5), .second, .val (.long q6), .second, .val (.int (1 : Int32)), .val (.long (own_pick p2 (0 : Int32) q3)), .second, .val (.long (own_pick p2 (1 : Int32) q4)), .second, .val (.long (own_pick p2 (2 : Int32) q5)), .second, .val (.long (own_pick p2 (3 : Int32) q6)), .second, .val (.ref b8), .unset] [(.int (lcmpW (own_pick p2 (0 : Int32) q3) (0 : Int64)))])) _
        refine XS.ifNo X10.here hx rfl (hb hby at_106) rfl ((if0 _ _).trans (teq ((lw_eq (own_pick p2 (0 : Int32) q3) (0 : Int64)).mpr hc106)).2) ?_
        show Steps p.tables e below (T10.setTop (mkF m 109 #[.val (.int p1), .val (.int p2), .val (.long q3), .second, .val (.long q4), .second, .val (.long q5), .second, .val (.long q6), .second, .val (.int (1 : Int32)), .val (.long (own_pick p2 (0 : Int32) q3)), .second, .val (.long (own_pick p2 (1 : Int32) q4)), .second, .val (.long (own_pick p2 (2 : Int32) q5)), .second, .val (.long (own_pick p2 (3 : Int32) q6)), .second, .val (.ref b8), .unset] [])) _
        refine XS.iload X10.here hx rfl (hb hby at_109) rfl ?_
        show Steps p.tables e below (T10.setTop (mkF m 111 #[.val (.int p1), .val (.int p2), .val (.long q3), .second, .val (.long q4), .second, .val (.long q5), .second, .val (.long q6), .second, .val (.int (1 : Int32)), .val (.long (own_pick p2 (0 : Int32) q3)), .second, .val (.long (own_pick p2 (1 : Int32) q4)), .second, .val (.long (own_pick p2 (2 : Int32) q5)), .second, .val (.long (own_pick p2 (3 : Int32) q6)), .second, .val (.ref b8), .unset] [(.int (1 : Int32))])) _
        refine XS.iconst X10.here hx rfl (hb hby at_111) ?_
        show Steps p.tables e below (T10.setTop (mkF m 112 #[.val (.int p1), .val (.int p2), .val (.long q3), .second, .val (.long q4), .second, .val (.long q5), .second, .val (.long q6), .second, .val (.int (1 : Int32)), .val (.long (own_pick p2 (0 : Int32) q3)), .second, .val (.long (own_pick p2 (1 : Int32) q4)), .second, .val (.long (own_pick p2 (2 : Int32) q5)), .second, .val (.long (own_pick p2 (3 : Int32) q6)), .second, .val (.ref b8), .unset] [(.int (2 : Int32)), (.int (1 : Int32))])) _
        refine XS.icmpYes X10.here hx rfl (pc0 := 112) (pc' := 122) rfl (hb hby at_112) rfl (tlt (by decide)).1 (by decide) (by decide) ?_
        show Steps p.tables e below (T10.setTop (mkF m 122 #[.val (.int p1), .val (.int p2), .val (.long q3), .second, .val (.long q4), .second, .val (.long q5), .second, .val (.long q6), .second, .val (.int (1 : Int32)), .val (.long (own_pick p2 (0 : Int32) q3)), .second, .val (.long (own_pick p2 (1 : Int32) q4)), .second, .val (.long (own_pick p2 (2 : Int32) q5)), .second, .val (.long (own_pick p2 (3 : Int32) q6)), .second, .val (.ref b8), .unset] [])) _
        refine XS.iload X10.here hx rfl (hb hby at_122) rfl ?_
        show Steps p.tables e below (T10.setTop (mkF m 124 #[.val (.int p1), .val (.int p2), .val (.long q3), .second, .val (.long q4), .second, .val (.long q5), .second, .val (.long q6), .second, .val (.int (1 : Int32)), .val (.long (own_pick p2 (0 : Int32) q3)), .second, .val (.long (own_pick p2 (1 : Int32) q4)), .second, .val (.long (own_pick p2 (2 : Int32) q5)), .second, .val (.long (own_pick p2 (3 : Int32) q6)), .second, .val (.ref b8), .unset] [(.int (1 : Int32))])) _
        refine XS.iconst X10.here hx rfl (hb hby at_124) ?_
        show Steps p.tables e below (T10.setTop (mkF m 125 #[.val (.int p1), .val (.int p2), .val (.long q3), .second, .val (.long q4), .second, .val (.long q5), .second, .val (.long q6), .second, .val (.int (1 : Int32)), .val (.long (own_pick p2 (0 : Int32) q3)), .second, .val (.long (own_pick p2 (1 : Int32) q4)), .second, .val (.long (own_pick p2 (2 : Int32) q5)), .second, .val (.long (own_pick p2 (3 : Int32) q6)), .second, .val (.ref b8), .unset] [(.int (3 : Int32)), (.int (1 : Int32))])) _
        refine XS.icmpYes X10.here hx rfl (pc0 := 125) (pc' := 135) rfl (hb hby at_125) rfl (tlt (by decide)).1 (by decide) (by decide) ?_
        show Steps p.tables e below (T10.setTop (mkF m 135 #[.val (.int p1), .val (.int p2), .val (.long q3), .second, .val (.long q4), .second, .val (.long q5), .second, .val (.long q6), .second, .val (.int (1 : Int32)), .val (.long (own_pick p2 (0 : Int32) q3)), .second, .val (.long (own_pick p2 (1 : Int32) q4)), .second, .val (.long (own_pick p2 (2 : Int32) q5)), .second, .val (.long (own_pick p2 (3 : Int32) q6)), .second, .val (.ref b8), .unset] [])) _
        refine XS.iload X10.here hx rfl (hb hby at_135) rfl ?_
        show Steps p.tables e below (T10.setTop (mkF m 137 #[.val (.int p1), .val (.int p2), .val (.long q3), .second, .val (.long q4), .second, .val (.long q5), .second, .val (.long q6), .second, .val (.int (1 : Int32)), .val (.long (own_pick p2 (0 : Int32) q3)), .second, .val (.long (own_pick p2 (1 : Int32) q4)), .second, .val (.long (own_pick p2 (2 : Int32) q5)), .second, .val (.long (own_pick p2 (3 : Int32) q6)), .second, .val (.ref b8), .unset] [(.int (1 : Int32))])) _
        refine XS.iconst X10.here hx rfl (hb hby at_137) ?_
        show Steps p.tables e below (T10.setTop (mkF m 138 #[.val (.int p1), .val (.int p2), .val (.long q3), .second, .val (.long q4), .second, .val (.long q5), .second, .val (.long q6), .second, .val (.int (1 : Int32)), .val (.long (own_pick p2 (0 : Int32) q3)), .second, .val (.long (own_pick p2 (1 : Int32) q4)), .second, .val (.long (own_pick p2 (2 : Int32) q5)), .second, .val (.long (own_pick p2 (3 : Int32) q6)), .second, .val (.ref b8), .unset] [(.int (4 : Int32)), (.int (1 : Int32))])) _
        refine XS.icmpYes X10.here hx rfl (pc0 := 138) (pc' := 148) rfl (hb hby at_138) rfl (tlt (by decide)).1 (by decide) (by decide) ?_
        show Steps p.tables e below (T10.setTop (mkF m 148 #[.val (.int p1), .val (.int p2), .val (.long q3), .second, .val (.long q4), .second, .val (.long q5), .second, .val (.long q6), .second, .val (.int (1 : Int32)), .val (.long (own_pick p2 (0 : Int32) q3)), .second, .val (.long (own_pick p2 (1 : Int32) q4)), .second, .val (.long (own_pick p2 (2 : Int32) q5)), .second, .val (.long (own_pick p2 (3 : Int32) q6)), .second, .val (.ref b8), .unset] [])) _
        refine XS.iconst X10.here hx rfl (hb hby at_148) ?_
        show Steps p.tables e below (T10.setTop (mkF m 149 #[.val (.int p1), .val (.int p2), .val (.long q3), .second, .val (.long q4), .second, .val (.long q5), .second, .val (.long q6), .second, .val (.int (1 : Int32)), .val (.long (own_pick p2 (0 : Int32) q3)), .second, .val (.long (own_pick p2 (1 : Int32) q4)), .second, .val (.long (own_pick p2 (2 : Int32) q5)), .second, .val (.long (own_pick p2 (3 : Int32) q6)), .second, .val (.ref b8), .unset] [(.int (1 : Int32))])) _
        refine XS.goto X10.here hx rfl (pc0 := 149) (pc' := 153) rfl (hb hby at_149) (by decide) (by decide) ?_
        exact kt
      · have qj96_S0k1 : j96_S0k1 = (0 : Int32) := by rw [ej96_S0k1, if_neg hc106]
        rw [qj96_S0k1] at kt
        show Steps p.tables e below (T10.setTop (mkF m 106 #[.val (.int p1), .val (.int p2), .val (.long q3), .second, .val (.long q4), .second, .val (.long q5), .second, .val (.long q6), .second, .val (.int (1 : Int32)), .val (.long (own_pick p2 (0 : Int32) q3)), .second, .val (.long (own_pick p2 (1 : Int32) q4)), .second, .val (.long (own_pick p2 (2 : Int32) q5)), .second, .val (.long (own_pick p2 (3 : Int32) q6)), .second, .val (.ref b8), .unset] [(.int (lcmpW (own_pick p2 (0 : Int32) q3) (0 : Int64)))])) _
        refine XS.ifYes X10.here hx rfl (pc0 := 106) (pc' := 152) rfl (hb hby at_106) rfl ((if0 _ _).trans (feq (fun q => hc106 ((lw_eq (own_pick p2 (0 : Int32) q3) (0 : Int64)).mp q))).2) (by decide) (by decide) ?_
        show Steps p.tables e below (T10.setTop (mkF m 152 #[.val (.int p1), .val (.int p2), .val (.long q3), .second, .val (.long q4), .second, .val (.long q5), .second, .val (.long q6), .second, .val (.int (1 : Int32)), .val (.long (own_pick p2 (0 : Int32) q3)), .second, .val (.long (own_pick p2 (1 : Int32) q4)), .second, .val (.long (own_pick p2 (2 : Int32) q5)), .second, .val (.long (own_pick p2 (3 : Int32) q6)), .second, .val (.ref b8), .unset] [])) _
        refine XS.iconst X10.here hx rfl (hb hby at_152) ?_
        exact kt
    obtain ⟨_, _, ⟨T11, L11, k11, n11⟩, -, X11, ⟨Lc11, hQ11, l11, y11, z11⟩, st11⟩ := Jvm.LawKit.callS X10 hx (y := (⟨"com/example/vestline/vestline/ProRata", "noWeight", "([J)Z"⟩ : MethodName)) hown (mvT hZ (hw _ (List.mem_of_getElem? (i := 7) rfl))) (mvT hZ (hw _ (List.mem_of_getElem? (i := 8) rfl))) (mvT hZ (hw _ (List.mem_of_getElem? (i := 9) rfl))) (mvT hZ (hw _ (List.mem_of_getElem? (i := 10) rfl))) (by decide) (backOf (W := 0) (rm2n1 l Z a0 hw [] b8 k8 (own_pick p2 (0 : Int32) q3) h10 n0 Z10 V10) hZ (hw _ (List.mem_of_getElem? (i := 10) rfl)) (hw _ (List.mem_of_getElem? (i := 9) rfl)) (by decide) (by decide)) (g := (mkF m 157 #[.val (.int p1), .val (.int p2), .val (.long q3), .second, .val (.long q4), .second, .val (.long q5), .second, .val (.long q6), .second, .val (.int (1 : Int32)), .val (.long (own_pick p2 (0 : Int32) q3)), .second, .val (.long (own_pick p2 (1 : Int32) q4)), .second, .val (.long (own_pick p2 (2 : Int32) q5)), .second, .val (.long (own_pick p2 (3 : Int32) q6)), .second, .val (.ref b8), .val (.int j96_S0k1)] [(.ref b8)])) rfl (by rw [hml]; rfl) (argsL := [(.ref b8)]) (rest := []) (lenOf pd0_1 rfl) rfl (by show 2 * 0 + _ ≤ _; exact Nat.le_of_eq rfl) (hb hby at_157) (fun _ _ => ⟨rfl, e10, (by decide : 1 + 0 ≤ _), (by decide : 1 + 0 ≤ _)⟩)
    dsimp only [Pt.U, Pt.locs, Pt.cells, Pt.slots] at X11 l11 y11 z11 st11 hQ11
    subst l11 y11 z11
    obtain ⟨rfl, N11q, e11⟩ := hQ11
    have N11 := Fr.app N10 N11q
    obtain ⟨fs, hr, hrun, hended, hW, hsame⟩ := X11.leave (v := some (.int (1 : Int32))) (fun h => by rw [Bd.returns] at h; cases h)
    refine ⟨_, _, c5 _ ?_, hrun, hended, _, _, rfl, ?_, ⟨_, rfl⟩, hW, hsame.mono (by decide) (by decide)⟩
    · show Steps p.tables e below (T4.setTop (mkF m 43 #[.val (.int p1), .val (.int p2), .val (.long q3), .second, .val (.long q4), .second, .val (.long q5), .second, .val (.long q6), .second, .val (.int (1 : Int32)), .val (.long (own_pick p2 (0 : Int32) q3)), .second, .val (.long (own_pick p2 (1 : Int32) q4)), .second, .val (.long (own_pick p2 (2 : Int32) q5)), .second, .val (.long (own_pick p2 (3 : Int32) q6)), .second, .unset, .unset] [])) _
      refine XS.iload X4.here hx rfl (hb hby at_43) rfl ?_
      show Steps p.tables e below (T4.setTop (mkF m 45 #[.val (.int p1), .val (.int p2), .val (.long q3), .second, .val (.long q4), .second, .val (.long q5), .second, .val (.long q6), .second, .val (.int (1 : Int32)), .val (.long (own_pick p2 (0 : Int32) q3)), .second, .val (.long (own_pick p2 (1 : Int32) q4)), .second, .val (.long (own_pick p2 (2 : Int32) q5)), .second, .val (.long (own_pick p2 (3 : Int32) q6)), .second, .unset, .unset] [(.int (1 : Int32))])) _
      refine st8 _ ?_
      show Steps p.tables e below (T8.setTop (mkF m 47 #[.val (.int p1), .val (.int p2), .val (.long q3), .second, .val (.long q4), .second, .val (.long q5), .second, .val (.long q6), .second, .val (.int (1 : Int32)), .val (.long (own_pick p2 (0 : Int32) q3)), .second, .val (.long (own_pick p2 (1 : Int32) q4)), .second, .val (.long (own_pick p2 (2 : Int32) q5)), .second, .val (.long (own_pick p2 (3 : Int32) q6)), .second, .unset, .unset] [(.ref b8)])) _
      refine XS.astore X8.here hx rfl (hb hby at_47) rfl rfl (l' := #[.val (.int p1), .val (.int p2), .val (.long q3), .second, .val (.long q4), .second, .val (.long q5), .second, .val (.long q6), .second, .val (.int (1 : Int32)), .val (.long (own_pick p2 (0 : Int32) q3)), .second, .val (.long (own_pick p2 (1 : Int32) q4)), .second, .val (.long (own_pick p2 (2 : Int32) q5)), .second, .val (.long (own_pick p2 (3 : Int32) q6)), .second, .val (.ref b8), .unset]) rfl ?_
      show Steps p.tables e below (T8.setTop (mkF m 49 #[.val (.int p1), .val (.int p2), .val (.long q3), .second, .val (.long q4), .second, .val (.long q5), .second, .val (.long q6), .second, .val (.int (1 : Int32)), .val (.long (own_pick p2 (0 : Int32) q3)), .second, .val (.long (own_pick p2 (1 : Int32) q4)), .second, .val (.long (own_pick p2 (2 : Int32) q5)), .second, .val (.long (own_pick p2 (3 : Int32) q6)), .second, .val (.ref b8), .unset] [])) _
      refine XS.iload X8.here hx rfl (hb hby at_49) rfl ?_
      show Steps p.tables e below (T8.setTop (mkF m 51 #[.val (.int p1), .val (.int p2), .val (.long q3), .second, .val (.long q4), .second, .val (.long q5), .second, .val (.long q6), .second, .val (.int (1 : Int32)), .val (.long (own_pick p2 (0 : Int32) q3)), .second, .val (.long (own_pick p2 (1 : Int32) q4)), .second, .val (.long (own_pick p2 (2 : Int32) q5)), .second, .val (.long (own_pick p2 (3 : Int32) q6)), .second, .val (.ref b8), .unset] [(.int (1 : Int32))])) _
      refine XS.ifNo X8.here hx rfl (hb hby at_51) rfl ((if0 _ _).trans (tlt (by decide)).2.2.2) ?_
      show Steps p.tables e below (T8.setTop (mkF m 54 #[.val (.int p1), .val (.int p2), .val (.long q3), .second, .val (.long q4), .second, .val (.long q5), .second, .val (.long q6), .second, .val (.int (1 : Int32)), .val (.long (own_pick p2 (0 : Int32) q3)), .second, .val (.long (own_pick p2 (1 : Int32) q4)), .second, .val (.long (own_pick p2 (2 : Int32) q5)), .second, .val (.long (own_pick p2 (3 : Int32) q6)), .second, .val (.ref b8), .unset] [])) _
      refine XS.aload X8.here hx rfl (hb hby at_54) rfl rfl ?_
      show Steps p.tables e below (T8.setTop (mkF m 56 #[.val (.int p1), .val (.int p2), .val (.long q3), .second, .val (.long q4), .second, .val (.long q5), .second, .val (.long q6), .second, .val (.int (1 : Int32)), .val (.long (own_pick p2 (0 : Int32) q3)), .second, .val (.long (own_pick p2 (1 : Int32) q4)), .second, .val (.long (own_pick p2 (2 : Int32) q5)), .second, .val (.long (own_pick p2 (3 : Int32) q6)), .second, .val (.ref b8), .unset] [(.ref b8)])) _
      refine XS.iconst X8.here hx rfl (hb hby at_56) ?_
      show Steps p.tables e below (T8.setTop (mkF m 57 #[.val (.int p1), .val (.int p2), .val (.long q3), .second, .val (.long q4), .second, .val (.long q5), .second, .val (.long q6), .second, .val (.int (1 : Int32)), .val (.long (own_pick p2 (0 : Int32) q3)), .second, .val (.long (own_pick p2 (1 : Int32) q4)), .second, .val (.long (own_pick p2 (2 : Int32) q5)), .second, .val (.long (own_pick p2 (3 : Int32) q6)), .second, .val (.ref b8), .unset] [(.int (0 : Int32)), (.ref b8)])) _
      refine XS.lload X8.here hx rfl (hb hby at_57) rfl ?_
      show Steps p.tables e below (T8.setTop (mkF m 59 #[.val (.int p1), .val (.int p2), .val (.long q3), .second, .val (.long q4), .second, .val (.long q5), .second, .val (.long q6), .second, .val (.int (1 : Int32)), .val (.long (own_pick p2 (0 : Int32) q3)), .second, .val (.long (own_pick p2 (1 : Int32) q4)), .second, .val (.long (own_pick p2 (2 : Int32) q5)), .second, .val (.long (own_pick p2 (3 : Int32) q6)), .second, .val (.ref b8), .unset] [(.long (own_pick p2 (0 : Int32) q3)), (.int (0 : Int32)), (.ref b8)])) _
      refine st10 _ ?_
      show Steps p.tables e below (T10.setTop (mkF m 60 #[.val (.int p1), .val (.int p2), .val (.long q3), .second, .val (.long q4), .second, .val (.long q5), .second, .val (.long q6), .second, .val (.int (1 : Int32)), .val (.long (own_pick p2 (0 : Int32) q3)), .second, .val (.long (own_pick p2 (1 : Int32) q4)), .second, .val (.long (own_pick p2 (2 : Int32) q5)), .second, .val (.long (own_pick p2 (3 : Int32) q6)), .second, .val (.ref b8), .unset] [])) _
      refine XS.iload X10.here hx rfl (hb hby at_60) rfl ?_
      show Steps p.tables e below (T10.setTop (mkF m 62 #[.val (.int p1), .val (.int p2), .val (.long q3), .second, .val (.long q4), .second, .val (.long q5), .second, .val (.long q6), .second, .val (.int (1 : Int32)), .val (.long (own_pick p2 (0 : Int32) q3)), .second, .val (.long (own_pick p2 (1 : Int32) q4)), .second, .val (.long (own_pick p2 (2 : Int32) q5)), .second, .val (.long (own_pick p2 (3 : Int32) q6)), .second, .val (.ref b8), .unset] [(.int (1 : Int32))])) _
      refine XS.iconst X10.here hx rfl (hb hby at_62) ?_
      show Steps p.tables e below (T10.setTop (mkF m 63 #[.val (.int p1), .val (.int p2), .val (.long q3), .second, .val (.long q4), .second, .val (.long q5), .second, .val (.long q6), .second, .val (.int (1 : Int32)), .val (.long (own_pick p2 (0 : Int32) q3)), .second, .val (.long (own_pick p2 (1 : Int32) q4)), .second, .val (.long (own_pick p2 (2 : Int32) q5)), .second, .val (.long (own_pick p2 (3 : Int32) q6)), .second, .val (.ref b8), .unset] [(.int (1 : Int32)), (.int (1 : Int32))])) _
      refine XS.icmpYes X10.here hx rfl (pc0 := 63) (pc' := 72) rfl (hb hby at_63) rfl (flt (by decide)).2.2.2 (by decide) (by decide) ?_
      show Steps p.tables e below (T10.setTop (mkF m 72 #[.val (.int p1), .val (.int p2), .val (.long q3), .second, .val (.long q4), .second, .val (.long q5), .second, .val (.long q6), .second, .val (.int (1 : Int32)), .val (.long (own_pick p2 (0 : Int32) q3)), .second, .val (.long (own_pick p2 (1 : Int32) q4)), .second, .val (.long (own_pick p2 (2 : Int32) q5)), .second, .val (.long (own_pick p2 (3 : Int32) q6)), .second, .val (.ref b8), .unset] [])) _
      refine XS.iload X10.here hx rfl (hb hby at_72) rfl ?_
      show Steps p.tables e below (T10.setTop (mkF m 74 #[.val (.int p1), .val (.int p2), .val (.long q3), .second, .val (.long q4), .second, .val (.long q5), .second, .val (.long q6), .second, .val (.int (1 : Int32)), .val (.long (own_pick p2 (0 : Int32) q3)), .second, .val (.long (own_pick p2 (1 : Int32) q4)), .second, .val (.long (own_pick p2 (2 : Int32) q5)), .second, .val (.long (own_pick p2 (3 : Int32) q6)), .second, .val (.ref b8), .unset] [(.int (1 : Int32))])) _
      refine XS.iconst X10.here hx rfl (hb hby at_74) ?_
      show Steps p.tables e below (T10.setTop (mkF m 75 #[.val (.int p1), .val (.int p2), .val (.long q3), .second, .val (.long q4), .second, .val (.long q5), .second, .val (.long q6), .second, .val (.int (1 : Int32)), .val (.long (own_pick p2 (0 : Int32) q3)), .second, .val (.long (own_pick p2 (1 : Int32) q4)), .second, .val (.long (own_pick p2 (2 : Int32) q5)), .second, .val (.long (own_pick p2 (3 : Int32) q6)), .second, .val (.ref b8), .unset] [(.int (2 : Int32)), (.int (1 : Int32))])) _
      refine XS.icmpYes X10.here hx rfl (pc0 := 75) (pc' := 84) rfl (hb hby at_75) rfl (flt (by decide)).2.2.2 (by decide) (by decide) ?_
      show Steps p.tables e below (T10.setTop (mkF m 84 #[.val (.int p1), .val (.int p2), .val (.long q3), .second, .val (.long q4), .second, .val (.long q5), .second, .val (.long q6), .second, .val (.int (1 : Int32)), .val (.long (own_pick p2 (0 : Int32) q3)), .second, .val (.long (own_pick p2 (1 : Int32) q4)), .second, .val (.long (own_pick p2 (2 : Int32) q5)), .second, .val (.long (own_pick p2 (3 : Int32) q6)), .second, .val (.ref b8), .unset] [])) _
      refine XS.iload X10.here hx rfl (hb hby at_84) rfl ?_
      show Steps p.tables e below (T10.setTop (mkF m 86 #[.val (.int p1), .val (.int p2), .val (.long q3), .second, .val (.long q4), .second, .val (.long q5), .second, .val (.long q6), .second, .val (.int (1 : Int32)), .val (.long (own_pick p2 (0 : Int32) q3)), .second, .val (.long (own_pick p2 (1 : Int32) q4)), .second, .val (.long (own_pick p2 (2 : Int32) q5)), .second, .val (.long (own_pick p2 (3 : Int32) q6)), .second, .val (.ref b8), .unset] [(.int (1 : Int32))])) _
      refine XS.iconst X10.here hx rfl (hb hby at_86) ?_
      show Steps p.tables e below (T10.setTop (mkF m 87 #[.val (.int p1), .val (.int p2), .val (.long q3), .second, .val (.long q4), .second, .val (.long q5), .second, .val (.long q6), .second, .val (.int (1 : Int32)), .val (.long (own_pick p2 (0 : Int32) q3)), .second, .val (.long (own_pick p2 (1 : Int32) q4)), .second, .val (.long (own_pick p2 (2 : Int32) q5)), .second, .val (.long (own_pick p2 (3 : Int32) q6)), .second, .val (.ref b8), .unset] [(.int (3 : Int32)), (.int (1 : Int32))])) _
      refine XS.icmpYes X10.here hx rfl (pc0 := 87) (pc' := 96) rfl (hb hby at_87) rfl (flt (by decide)).2.2.2 (by decide) (by decide) ?_
      show Steps p.tables e below (T10.setTop (mkF m 96 #[.val (.int p1), .val (.int p2), .val (.long q3), .second, .val (.long q4), .second, .val (.long q5), .second, .val (.long q6), .second, .val (.int (1 : Int32)), .val (.long (own_pick p2 (0 : Int32) q3)), .second, .val (.long (own_pick p2 (1 : Int32) q4)), .second, .val (.long (own_pick p2 (2 : Int32) q5)), .second, .val (.long (own_pick p2 (3 : Int32) q6)), .second, .val (.ref b8), .unset] [])) _
      refine sg96k1 _ ?_
      show Steps p.tables e below (T10.setTop (mkF m 153 #[.val (.int p1), .val (.int p2), .val (.long q3), .second, .val (.long q4), .second, .val (.long q5), .second, .val (.long q6), .second, .val (.int (1 : Int32)), .val (.long (own_pick p2 (0 : Int32) q3)), .second, .val (.long (own_pick p2 (1 : Int32) q4)), .second, .val (.long (own_pick p2 (2 : Int32) q5)), .second, .val (.long (own_pick p2 (3 : Int32) q6)), .second, .val (.ref b8), .unset] [(.int j96_S0k1)])) _
      refine XS.istore X10.here hx rfl (hb hby at_153) rfl (l' := #[.val (.int p1), .val (.int p2), .val (.long q3), .second, .val (.long q4), .second, .val (.long q5), .second, .val (.long q6), .second, .val (.int (1 : Int32)), .val (.long (own_pick p2 (0 : Int32) q3)), .second, .val (.long (own_pick p2 (1 : Int32) q4)), .second, .val (.long (own_pick p2 (2 : Int32) q5)), .second, .val (.long (own_pick p2 (3 : Int32) q6)), .second, .val (.ref b8), .val (.int j96_S0k1)]) rfl ?_
      show Steps p.tables e below (T10.setTop (mkF m 155 #[.val (.int p1), .val (.int p2), .val (.long q3), .second, .val (.long q4), .second, .val (.long q5), .second, .val (.long q6), .second, .val (.int (1 : Int32)), .val (.long (own_pick p2 (0 : Int32) q3)), .second, .val (.long (own_pick p2 (1 : Int32) q4)), .second, .val (.long (own_pick p2 (2 : Int32) q5)), .second, .val (.long (own_pick p2 (3 : Int32) q6)), .second, .val (.ref b8), .val (.int j96_S0k1)] [])) _
      refine XS.aload X10.here hx rfl (hb hby at_155) rfl rfl ?_
      show Steps p.tables e below (T10.setTop (mkF m 157 #[.val (.int p1), .val (.int p2), .val (.long q3), .second, .val (.long q4), .second, .val (.long q5), .second, .val (.long q6), .second, .val (.int (1 : Int32)), .val (.long (own_pick p2 (0 : Int32) q3)), .second, .val (.long (own_pick p2 (1 : Int32) q4)), .second, .val (.long (own_pick p2 (2 : Int32) q5)), .second, .val (.long (own_pick p2 (3 : Int32) q6)), .second, .val (.ref b8), .val (.int j96_S0k1)] [(.ref b8)])) _
      refine st11 _ ?_
      show Steps p.tables e below (T11.setTop (mkF m 160 #[.val (.int p1), .val (.int p2), .val (.long q3), .second, .val (.long q4), .second, .val (.long q5), .second, .val (.long q6), .second, .val (.int (1 : Int32)), .val (.long (own_pick p2 (0 : Int32) q3)), .second, .val (.long (own_pick p2 (1 : Int32) q4)), .second, .val (.long (own_pick p2 (2 : Int32) q5)), .second, .val (.long (own_pick p2 (3 : Int32) q6)), .second, .val (.ref b8), .val (.int j96_S0k1)] [(.int (own_nw1 (own_pick p2 (0 : Int32) q3)))])) _
      refine XS.iload X11.here hx rfl (hb hby at_160) rfl ?_
      show Steps p.tables e below (T11.setTop (mkF m 162 #[.val (.int p1), .val (.int p2), .val (.long q3), .second, .val (.long q4), .second, .val (.long q5), .second, .val (.long q6), .second, .val (.int (1 : Int32)), .val (.long (own_pick p2 (0 : Int32) q3)), .second, .val (.long (own_pick p2 (1 : Int32) q4)), .second, .val (.long (own_pick p2 (2 : Int32) q5)), .second, .val (.long (own_pick p2 (3 : Int32) q6)), .second, .val (.ref b8), .val (.int j96_S0k1)] [(.int j96_S0k1), (.int (own_nw1 (own_pick p2 (0 : Int32) q3)))])) _
      refine XS.icmpNo X11.here hx rfl (hb hby at_162) rfl (teq (by rw [ej96_S0k1]; rfl)).2 ?_
      show Steps p.tables e below (T11.setTop (mkF m 165 #[.val (.int p1), .val (.int p2), .val (.long q3), .second, .val (.long q4), .second, .val (.long q5), .second, .val (.long q6), .second, .val (.int (1 : Int32)), .val (.long (own_pick p2 (0 : Int32) q3)), .second, .val (.long (own_pick p2 (1 : Int32) q4)), .second, .val (.long (own_pick p2 (2 : Int32) q5)), .second, .val (.long (own_pick p2 (3 : Int32) q6)), .second, .val (.ref b8), .val (.int j96_S0k1)] [])) _
      refine XS.iconst X11.here hx rfl (hb hby at_165) ?_
      show Steps p.tables e below (T11.setTop (mkF m 166 #[.val (.int p1), .val (.int p2), .val (.long q3), .second, .val (.long q4), .second, .val (.long q5), .second, .val (.long q6), .second, .val (.int (1 : Int32)), .val (.long (own_pick p2 (0 : Int32) q3)), .second, .val (.long (own_pick p2 (1 : Int32) q4)), .second, .val (.long (own_pick p2 (2 : Int32) q5)), .second, .val (.long (own_pick p2 (3 : Int32) q6)), .second, .val (.ref b8), .val (.int j96_S0k1)] [(.int (1 : Int32))])) _
      refine XS.goto X11.here hx rfl (pc0 := 166) (pc' := 170) rfl (hb hby at_166) (by decide) (by decide) ?_
      show Steps p.tables e below (T11.setTop (mkF m 170 #[.val (.int p1), .val (.int p2), .val (.long q3), .second, .val (.long q4), .second, .val (.long q5), .second, .val (.long q6), .second, .val (.int (1 : Int32)), .val (.long (own_pick p2 (0 : Int32) q3)), .second, .val (.long (own_pick p2 (1 : Int32) q4)), .second, .val (.long (own_pick p2 (2 : Int32) q5)), .second, .val (.long (own_pick p2 (3 : Int32) q6)), .second, .val (.ref b8), .val (.int j96_S0k1)] [(.int (1 : Int32))])) _
      exact retN X11 hx (t := .boolean) Bd.returns (by simp) (hb hby at_170) hr
    · show Q0 Z p1 p2 q3 q4 q5 q6 h0 n0 _ T11.heap _
      rw [e11]
      exact ⟨rfl, N11⟩
  · rw [hk] at c5
    obtain ⟨T12, h12, k12, X12, e12, E12, A12, st12⟩ := newP X4 hx hZ (hw _ (List.mem_of_getElem? (i := 6) rfl)) e4 (g := (mkF m 45 #[.val (.int p1), .val (.int p2), .val (.long q3), .second, .val (.long q4), .second, .val (.long q5), .second, .val (.long q6), .second, .val (.int (2 : Int32)), .val (.long (own_pick p2 (0 : Int32) q3)), .second, .val (.long (own_pick p2 (1 : Int32) q4)), .second, .val (.long (own_pick p2 (2 : Int32) q5)), .second, .val (.long (own_pick p2 (3 : Int32) q6)), .second, .unset, .unset] [(.int (2 : Int32))])) rfl (hb hby at_45) rfl (by decide) (cap := 2) (by decide) (by decide) (by decide) (by decide)
    obtain ⟨b12, g12⟩ : ∃ z, z = h0.size := ⟨_, rfl⟩
    rw [← g12] at A12 st12
    have g_b12 : n0 ≤ b12 := Nat.le_trans Z0 (Nat.le_of_eq g12.symm)
    have Z12 : n0 ≤ h12.size := Nat.le_trans Z0 E12.1
    have V12 : Arv Z h12 b12 k12 .long (2 : Int32) [(.long (0 : Int64)), (.long (0 : Int64))] (.long (0 : Int64)) := (Arv.new A12 (by decide)).pad (pad_rep [] (.long (0 : Int64)) 2)
    have cp59_13 := V12
    obtain ⟨cl59_13, Ar59_13, qa59_13, Sa59_13, Na59_13, Ha59_13, Ga59_13⟩ := cp59_13
    have hin59_13 : ¬ ((0 : Int32) < 0 ∨ cl59_13.slots.size ≤ ((0 : Int32)).toNatClampNeg) := inb_of Sa59_13 ⟨by decide, by decide⟩
    obtain ⟨T14, h14, X14, e14, W14, st14⟩ := stJ X12 hx hZ e12 Ar59_13 (j := (0 : Int32)) hin59_13 (g := (mkF m 59 #[.val (.int p1), .val (.int p2), .val (.long q3), .second, .val (.long q4), .second, .val (.long q5), .second, .val (.long q6), .second, .val (.int (2 : Int32)), .val (.long (own_pick p2 (0 : Int32) q3)), .second, .val (.long (own_pick p2 (1 : Int32) q4)), .second, .val (.long (own_pick p2 (2 : Int32) q5)), .second, .val (.long (own_pick p2 (3 : Int32) q6)), .second, .val (.ref b12), .unset] [(.long (own_pick p2 (0 : Int32) q3)), (.int (0 : Int32)), (.ref b12)])) rfl rfl (hb hby at_59)
    have V14 : Arv Z h14 b12 k12 .long (2 : Int32) [(.long (own_pick p2 (0 : Int32) q3)), (.long (0 : Int64))] (.long (0 : Int64)) := Arv.set Ar59_13 qa59_13 Sa59_13 Na59_13 Ha59_13 Ga59_13 rfl W14 0 rfl (Nat.le_of_ble_eq_true rfl)
    have N14 := Fr.snoc X14 N4 g_b12
    have Z14 : n0 ≤ h14.size := Nat.le_trans Z12 (Keep.of_wr W14).1
    have cp71_15 := V14
    obtain ⟨cl71_15, Ar71_15, qa71_15, Sa71_15, Na71_15, Ha71_15, Ga71_15⟩ := cp71_15
    have hin71_15 : ¬ ((1 : Int32) < 0 ∨ cl71_15.slots.size ≤ ((1 : Int32)).toNatClampNeg) := inb_of Sa71_15 ⟨by decide, by decide⟩
    obtain ⟨T16, h16, X16, e16, W16, st16⟩ := stJ X14 hx hZ e14 Ar71_15 (j := (1 : Int32)) hin71_15 (g := (mkF m 71 #[.val (.int p1), .val (.int p2), .val (.long q3), .second, .val (.long q4), .second, .val (.long q5), .second, .val (.long q6), .second, .val (.int (2 : Int32)), .val (.long (own_pick p2 (0 : Int32) q3)), .second, .val (.long (own_pick p2 (1 : Int32) q4)), .second, .val (.long (own_pick p2 (2 : Int32) q5)), .second, .val (.long (own_pick p2 (3 : Int32) q6)), .second, .val (.ref b12), .unset] [(.long (own_pick p2 (1 : Int32) q4)), (.int (1 : Int32)), (.ref b12)])) rfl rfl (hb hby at_71)
    have V16 : Arv Z h16 b12 k12 .long (2 : Int32) [(.long (own_pick p2 (0 : Int32) q3)), (.long (own_pick p2 (1 : Int32) q4))] (.long (0 : Int64)) := Arv.set Ar71_15 qa71_15 Sa71_15 Na71_15 Ha71_15 Ga71_15 rfl W16 1 rfl (Nat.le_of_ble_eq_true rfl)
    have N16 := Fr.snoc X16 N14 g_b12
    have Z16 : n0 ≤ h16.size := Nat.le_trans Z14 (Keep.of_wr W16).1
    obtain ⟨j96_S0k2, ej96_S0k2⟩ : ∃ z : Int32, z = (if (own_pick p2 (0 : Int32) q3) = (0 : Int64) then (if (own_pick p2 (1 : Int32) q4) = (0 : Int64) then (1 : Int32) else (0 : Int32)) else (0 : Int32)) := ⟨_, rfl⟩
    have sg96k2 : ∀ t, Steps p.tables e below (T16.setTop (mkF m 153 #[.val (.int p1), .val (.int p2), .val (.long q3), .second, .val (.long q4), .second, .val (.long q5), .second, .val (.long q6), .second, .val (.int (2 : Int32)), .val (.long (own_pick p2 (0 : Int32) q3)), .second, .val (.long (own_pick p2 (1 : Int32) q4)), .second, .val (.long (own_pick p2 (2 : Int32) q5)), .second, .val (.long (own_pick p2 (3 : Int32) q6)), .second, .val (.ref b12), .unset] [(.int j96_S0k2)])) t → Steps p.tables e below (T16.setTop (mkF m 96 #[.val (.int p1), .val (.int p2), .val (.long q3), .second, .val (.long q4), .second, .val (.long q5), .second, .val (.long q6), .second, .val (.int (2 : Int32)), .val (.long (own_pick p2 (0 : Int32) q3)), .second, .val (.long (own_pick p2 (1 : Int32) q4)), .second, .val (.long (own_pick p2 (2 : Int32) q5)), .second, .val (.long (own_pick p2 (3 : Int32) q6)), .second, .val (.ref b12), .unset] [])) t := fun t kt => by
      show Steps p.tables e below (T16.setTop (mkF m 96 #[.val (.int p1), .val (.int p2), .val (.long q3), .second, .val (.long q4), .second, .val (.long q5), .second, .val (.long q6), .second, .val (.int (2 : Int32)), .val (.long (own_pick p2 (0 : Int32) q3)), .second, .val (.long (own_pick p2 (1 : Int32) q4)), .second, .val (.long (own_pick p2 (2 : Int32) q5)), .second, .val (.long (own_pick p2 (3 : Int32) q6)), .second, .val (.ref b12), .unset] [])) _
      refine XS.iload X16.here hx rfl (hb hby at_96) rfl ?_
      show Steps p.tables e below (T16.setTop (mkF m 98 #[.val (.int p1), .val (.int p2), .val (.long q3), .second, .val (.long q4), .second, .val (.long q5), .second, .val (.long q6), .second, .val (.int (2 : Int32)), .val (.long (own_pick p2 (0 : Int32) q3)), .second, .val (.long (own_pick p2 (1 : Int32) q4)), .second, .val (.long (own_pick p2 (2 : Int32) q5)), .second, .val (.long (own_pick p2 (3 : Int32) q6)), .second, .val (.ref b12), .unset] [(.int (2 : Int32))])) _
      refine XS.iconst X16.here hx rfl (hb hby at_98) ?_
      show Steps p.tables e below (T16.setTop (mkF m 99 #[.val (.int p1), .val (.int p2), .val (.long q3), .second, .val (.long q4), .second, .val (.long q5), .second, .val (.long q6), .second, .val (.int (2 : Int32)), .val (.long (own_pick p2 (0 : Int32) q3)), .second, .val (.long (own_pick p2 (1 : Int32) q4)), .second, .val (.long (own_pick p2 (2 : Int32) q5)), .second, .val (.long (own_pick p2 (3 : Int32) q6)), .second, .val (.ref b12), .unset] [(.int (1 : Int32)), (.int (2 : Int32))])) _
      refine XS.icmpNo X16.here hx rfl (hb hby at_99) rfl (flt (by decide)).1 ?_
      show Steps p.tables e below (T16.setTop (mkF m 102 #[.val (.int p1), .val (.int p2), .val (.long q3), .second, .val (.long q4), .second, .val (.long q5), .second, .val (.long q6), .second, .val (.int (2 : Int32)), .val (.long (own_pick p2 (0 : Int32) q3)), .second, .val (.long (own_pick p2 (1 : Int32) q4)), .second, .val (.long (own_pick p2 (2 : Int32) q5)), .second, .val (.long (own_pick p2 (3 : Int32) q6)), .second, .val (.ref b12), .unset] [])) _
      refine XS.lload X16.here hx rfl (hb hby at_102) rfl ?_
      show Steps p.tables e below (T16.setTop (mkF m 104 #[.val (.int p1), .val (.int p2), .val (.long q3), .second, .val (.long q4), .second, .val (.long q5), .second, .val (.long q6), .second, .val (.int (2 : Int32)), .val (.long (own_pick p2 (0 : Int32) q3)), .second, .val (.long (own_pick p2 (1 : Int32) q4)), .second, .val (.long (own_pick p2 (2 : Int32) q5)), .second, .val (.long (own_pick p2 (3 : Int32) q6)), .second, .val (.ref b12), .unset] [(.long (own_pick p2 (0 : Int32) q3))])) _
      refine XS.lconst X16.here hx rfl (hb hby at_104) ?_
      show Steps p.tables e below (T16.setTop (mkF m 105 #[.val (.int p1), .val (.int p2), .val (.long q3), .second, .val (.long q4), .second, .val (.long q5), .second, .val (.long q6), .second, .val (.int (2 : Int32)), .val (.long (own_pick p2 (0 : Int32) q3)), .second, .val (.long (own_pick p2 (1 : Int32) q4)), .second, .val (.long (own_pick p2 (2 : Int32) q5)), .second, .val (.long (own_pick p2 (3 : Int32) q6)), .second, .val (.ref b12), .unset] [(.long (0 : Int64)), (.long (own_pick p2 (0 : Int32) q3))])) _
      refine XS.lcmp X16.here hx rfl (hb hby at_105) rfl ?_
      by_cases hc106 : (own_pick p2 (0 : Int32) q3) = (0 : Int64)
      · show Steps p.tables e below (T16.setTop (mkF m 106 #[.val (.int p1), .val (.int p2), .val (.long q3), .second, .val (.long q4), .second, .val (.long q5), .second, .val (.long q6), .second, .val (.int (2 : Int32)), .val (.long (own_pick p2 (0 : Int32) q3)), .second, .val (.long (own_pick p2 (1 : Int32) q4)), .second, .val (.long (own_pick p2 (2 : Int32) q5)), .second, .val (.long (own_pick p2 (3 : Int32) q6)), .second, .val (.ref b12), .unset] [(.int (lcmpW (own_pick p2 (0 : Int32) q3) (0 : Int64)))])) _
        refine XS.ifNo X16.here hx rfl (hb hby at_106) rfl ((if0 _ _).trans (teq ((lw_eq (own_pick p2 (0 : Int32) q3) (0 : Int64)).mpr hc106)).2) ?_
        show Steps p.tables e below (T16.setTop (mkF m 109 #[.val (.int p1), .val (.int p2), .val (.long q3), .second, .val (.long q4), .second, .val (.long q5), .second, .val (.long q6), .second, .val (.int (2 : Int32)), .val (.long (own_pick p2 (0 : Int32) q3)), .second, .val (.long (own_pick p2 (1 : Int32) q4)), .second, .val (.long (own_pick p2 (2 : Int32) q5)), .second, .val (.long (own_pick p2 (3 : Int32) q6)), .second, .val (.ref b12), .unset] [])) _
        refine XS.iload X16.here hx rfl (hb hby at_109) rfl ?_
        show Steps p.tables e below (T16.setTop (mkF m 111 #[.val (.int p1), .val (.int p2), .val (.long q3), .second, .val (.long q4), .second, .val (.long q5), .second, .val (.long q6), .second, .val (.int (2 : Int32)), .val (.long (own_pick p2 (0 : Int32) q3)), .second, .val (.long (own_pick p2 (1 : Int32) q4)), .second, .val (.long (own_pick p2 (2 : Int32) q5)), .second, .val (.long (own_pick p2 (3 : Int32) q6)), .second, .val (.ref b12), .unset] [(.int (2 : Int32))])) _
        refine XS.iconst X16.here hx rfl (hb hby at_111) ?_
        show Steps p.tables e below (T16.setTop (mkF m 112 #[.val (.int p1), .val (.int p2), .val (.long q3), .second, .val (.long q4), .second, .val (.long q5), .second, .val (.long q6), .second, .val (.int (2 : Int32)), .val (.long (own_pick p2 (0 : Int32) q3)), .second, .val (.long (own_pick p2 (1 : Int32) q4)), .second, .val (.long (own_pick p2 (2 : Int32) q5)), .second, .val (.long (own_pick p2 (3 : Int32) q6)), .second, .val (.ref b12), .unset] [(.int (2 : Int32)), (.int (2 : Int32))])) _
        refine XS.icmpNo X16.here hx rfl (hb hby at_112) rfl (flt (by decide)).1 ?_
        show Steps p.tables e below (T16.setTop (mkF m 115 #[.val (.int p1), .val (.int p2), .val (.long q3), .second, .val (.long q4), .second, .val (.long q5), .second, .val (.long q6), .second, .val (.int (2 : Int32)), .val (.long (own_pick p2 (0 : Int32) q3)), .second, .val (.long (own_pick p2 (1 : Int32) q4)), .second, .val (.long (own_pick p2 (2 : Int32) q5)), .second, .val (.long (own_pick p2 (3 : Int32) q6)), .second, .val (.ref b12), .unset] [])) _
        refine XS.lload X16.here hx rfl (hb hby at_115) rfl ?_
        show Steps p.tables e below (T16.setTop (mkF m 117 #[.val (.int p1), .val (.int p2), .val (.long q3), .second, .val (.long q4), .second, .val (.long q5), .second, .val (.long q6), .second, .val (.int (2 : Int32)), .val (.long (own_pick p2 (0 : Int32) q3)), .second, .val (.long (own_pick p2 (1 : Int32) q4)), .second, .val (.long (own_pick p2 (2 : Int32) q5)), .second, .val (.long (own_pick p2 (3 : Int32) q6)), .second, .val (.ref b12), .unset] [(.long (own_pick p2 (1 : Int32) q4))])) _
        refine XS.lconst X16.here hx rfl (hb hby at_117) ?_
        show Steps p.tables e below (T16.setTop (mkF m 118 #[.val (.int p1), .val (.int p2), .val (.long q3), .second, .val (.long q4), .second, .val (.long q5), .second, .val (.long q6), .second, .val (.int (2 : Int32)), .val (.long (own_pick p2 (0 : Int32) q3)), .second, .val (.long (own_pick p2 (1 : Int32) q4)), .second, .val (.long (own_pick p2 (2 : Int32) q5)), .second, .val (.long (own_pick p2 (3 : Int32) q6)), .second, .val (.ref b12), .unset] [(.long (0 : Int64)), (.long (own_pick p2 (1 : Int32) q4))])) _
        refine XS.lcmp X16.here hx rfl (hb hby at_118) rfl ?_
        by_cases hc119 : (own_pick p2 (1 : Int32) q4) = (0 : Int64)
        · have qj96_S0k2 : j96_S0k2 = (1 : Int32) := by rw [ej96_S0k2, if_pos hc106, if_pos hc119]
          rw [qj96_S0k2] at kt
          show Steps p.tables e below (T16.setTop (mkF m 119 #[.val (.int p1), .val (.int p2), .val (.long q3), .second, .val (.long q4), .second, .val (.long q5), .second, .val (.long q6), .second, .val (.int (2 : Int32)), .val (.long (own_pick p2 (0 : Int32) q3)), .second, .val (.long (own_pick p2 (1 : Int32) q4)), .second, .val (.long (own_pick p2 (2 : Int32) q5)), .second, .val (.long (own_pick p2 (3 : Int32) q6)), .second, .val (.ref b12), .unset] [(.int (lcmpW (own_pick p2 (1 : Int32) q4) (0 : Int64)))])) _
          refine XS.ifNo X16.here hx rfl (hb hby at_119) rfl ((if0 _ _).trans (teq ((lw_eq (own_pick p2 (1 : Int32) q4) (0 : Int64)).mpr hc119)).2) ?_
          show Steps p.tables e below (T16.setTop (mkF m 122 #[.val (.int p1), .val (.int p2), .val (.long q3), .second, .val (.long q4), .second, .val (.long q5), .second, .val (.long q6), .second, .val (.int (2 : Int32)), .val (.long (own_pick p2 (0 : Int32) q3)), .second, .val (.long (own_pick p2 (1 : Int32) q4)), .second, .val (.long (own_pick p2 (2 : Int32) q5)), .second, .val (.long (own_pick p2 (3 : Int32) q6)), .second, .val (.ref b12), .unset] [])) _
          refine XS.iload X16.here hx rfl (hb hby at_122) rfl ?_
          show Steps p.tables e below (T16.setTop (mkF m 124 #[.val (.int p1), .val (.int p2), .val (.long q3), .second, .val (.long q4), .second, .val (.long q5), .second, .val (.long q6), .second, .val (.int (2 : Int32)), .val (.long (own_pick p2 (0 : Int32) q3)), .second, .val (.long (own_pick p2 (1 : Int32) q4)), .second, .val (.long (own_pick p2 (2 : Int32) q5)), .second, .val (.long (own_pick p2 (3 : Int32) q6)), .second, .val (.ref b12), .unset] [(.int (2 : Int32))])) _
          refine XS.iconst X16.here hx rfl (hb hby at_124) ?_
          show Steps p.tables e below (T16.setTop (mkF m 125 #[.val (.int p1), .val (.int p2), .val (.long q3), .second, .val (.long q4), .second, .val (.long q5), .second, .val (.long q6), .second, .val (.int (2 : Int32)), .val (.long (own_pick p2 (0 : Int32) q3)), .second, .val (.long (own_pick p2 (1 : Int32) q4)), .second, .val (.long (own_pick p2 (2 : Int32) q5)), .second, .val (.long (own_pick p2 (3 : Int32) q6)), .second, .val (.ref b12), .unset] [(.int (3 : Int32)), (.int (2 : Int32))])) _
          refine XS.icmpYes X16.here hx rfl (pc0 := 125) (pc' := 135) rfl (hb hby at_125) rfl (tlt (by decide)).1 (by decide) (by decide) ?_
          show Steps p.tables e below (T16.setTop (mkF m 135 #[.val (.int p1), .val (.int p2), .val (.long q3), .second, .val (.long q4), .second, .val (.long q5), .second, .val (.long q6), .second, .val (.int (2 : Int32)), .val (.long (own_pick p2 (0 : Int32) q3)), .second, .val (.long (own_pick p2 (1 : Int32) q4)), .second, .val (.long (own_pick p2 (2 : Int32) q5)), .second, .val (.long (own_pick p2 (3 : Int32) q6)), .second, .val (.ref b12), .unset] [])) _
          refine XS.iload X16.here hx rfl (hb hby at_135) rfl ?_
          show Steps p.tables e below (T16.setTop (mkF m 137 #[.val (.int p1), .val (.int p2), .val (.long q3), .second, .val (.long q4), .second, .val (.long q5), .second, .val (.long q6), .second, .val (.int (2 : Int32)), .val (.long (own_pick p2 (0 : Int32) q3)), .second, .val (.long (own_pick p2 (1 : Int32) q4)), .second, .val (.long (own_pick p2 (2 : Int32) q5)), .second, .val (.long (own_pick p2 (3 : Int32) q6)), .second, .val (.ref b12), .unset] [(.int (2 : Int32))])) _
          refine XS.iconst X16.here hx rfl (hb hby at_137) ?_
          show Steps p.tables e below (T16.setTop (mkF m 138 #[.val (.int p1), .val (.int p2), .val (.long q3), .second, .val (.long q4), .second, .val (.long q5), .second, .val (.long q6), .second, .val (.int (2 : Int32)), .val (.long (own_pick p2 (0 : Int32) q3)), .second, .val (.long (own_pick p2 (1 : Int32) q4)), .second, .val (.long (own_pick p2 (2 : Int32) q5)), .second, .val (.long (own_pick p2 (3 : Int32) q6)), .second, .val (.ref b12), .unset] [(.int (4 : Int32)), (.int (2 : Int32))])) _
          refine XS.icmpYes X16.here hx rfl (pc0 := 138) (pc' := 148) rfl (hb hby at_138) rfl (tlt (by decide)).1 (by decide) (by decide) ?_
          show Steps p.tables e below (T16.setTop (mkF m 148 #[.val (.int p1), .val (.int p2), .val (.long q3), .second, .val (.long q4), .second, .val (.long q5), .second, .val (.long q6), .second, .val (.int (2 : Int32)), .val (.long (own_pick p2 (0 : Int32) q3)), .second, .val (.long (own_pick p2 (1 : Int32) q4)), .second, .val (.long (own_pick p2 (2 : Int32) q5)), .second, .val (.long (own_pick p2 (3 : Int32) q6)), .second, .val (.ref b12), .unset] [])) _
          refine XS.iconst X16.here hx rfl (hb hby at_148) ?_
          show Steps p.tables e below (T16.setTop (mkF m 149 #[.val (.int p1), .val (.int p2), .val (.long q3), .second, .val (.long q4), .second, .val (.long q5), .second, .val (.long q6), .second, .val (.int (2 : Int32)), .val (.long (own_pick p2 (0 : Int32) q3)), .second, .val (.long (own_pick p2 (1 : Int32) q4)), .second, .val (.long (own_pick p2 (2 : Int32) q5)), .second, .val (.long (own_pick p2 (3 : Int32) q6)), .second, .val (.ref b12), .unset] [(.int (1 : Int32))])) _
          refine XS.goto X16.here hx rfl (pc0 := 149) (pc' := 153) rfl (hb hby at_149) (by decide) (by decide) ?_
          exact kt
        · have qj96_S0k2 : j96_S0k2 = (0 : Int32) := by rw [ej96_S0k2, if_pos hc106, if_neg hc119]
          rw [qj96_S0k2] at kt
          show Steps p.tables e below (T16.setTop (mkF m 119 #[.val (.int p1), .val (.int p2), .val (.long q3), .second, .val (.long q4), .second, .val (.long q5), .second, .val (.long q6), .second, .val (.int (2 : Int32)), .val (.long (own_pick p2 (0 : Int32) q3)), .second, .val (.long (own_pick p2 (1 : Int32) q4)), .second, .val (.long (own_pick p2 (2 : Int32) q5)), .second, .val (.long (own_pick p2 (3 : Int32) q6)), .second, .val (.ref b12), .unset] [(.int (lcmpW (own_pick p2 (1 : Int32) q4) (0 : Int64)))])) _
          refine XS.ifYes X16.here hx rfl (pc0 := 119) (pc' := 152) rfl (hb hby at_119) rfl ((if0 _ _).trans (feq (fun q => hc119 ((lw_eq (own_pick p2 (1 : Int32) q4) (0 : Int64)).mp q))).2) (by decide) (by decide) ?_
          show Steps p.tables e below (T16.setTop (mkF m 152 #[.val (.int p1), .val (.int p2), .val (.long q3), .second, .val (.long q4), .second, .val (.long q5), .second, .val (.long q6), .second, .val (.int (2 : Int32)), .val (.long (own_pick p2 (0 : Int32) q3)), .second, .val (.long (own_pick p2 (1 : Int32) q4)), .second, .val (.long (own_pick p2 (2 : Int32) q5)), .second, .val (.long (own_pick p2 (3 : Int32) q6)), .second, .val (.ref b12), .unset] [])) _
          refine XS.iconst X16.here hx rfl (hb hby at_152) ?_
          exact kt
      · have qj96_S0k2 : j96_S0k2 = (0 : Int32) := by rw [ej96_S0k2, if_neg hc106]
        rw [qj96_S0k2] at kt
        show Steps p.tables e below (T16.setTop (mkF m 106 #[.val (.int p1), .val (.int p2), .val (.long q3), .second, .val (.long q4), .second, .val (.long q5), .second, .val (.long q6), .second, .val (.int (2 : Int32)), .val (.long (own_pick p2 (0 : Int32) q3)), .second, .val (.long (own_pick p2 (1 : Int32) q4)), .second, .val (.long (own_pick p2 (2 : Int32) q5)), .second, .val (.long (own_pick p2 (3 : Int32) q6)), .second, .val (.ref b12), .unset] [(.int (lcmpW (own_pick p2 (0 : Int32) q3) (0 : Int64)))])) _
        refine XS.ifYes X16.here hx rfl (pc0 := 106) (pc' := 152) rfl (hb hby at_106) rfl ((if0 _ _).trans (feq (fun q => hc106 ((lw_eq (own_pick p2 (0 : Int32) q3) (0 : Int64)).mp q))).2) (by decide) (by decide) ?_
        show Steps p.tables e below (T16.setTop (mkF m 152 #[.val (.int p1), .val (.int p2), .val (.long q3), .second, .val (.long q4), .second, .val (.long q5), .second, .val (.long q6), .second, .val (.int (2 : Int32)), .val (.long (own_pick p2 (0 : Int32) q3)), .second, .val (.long (own_pick p2 (1 : Int32) q4)), .second, .val (.long (own_pick p2 (2 : Int32) q5)), .second, .val (.long (own_pick p2 (3 : Int32) q6)), .second, .val (.ref b12), .unset] [])) _
        refine XS.iconst X16.here hx rfl (hb hby at_152) ?_
        exact kt
    obtain ⟨_, _, ⟨T17, L17, k17, n17⟩, -, X17, ⟨Lc17, hQ17, l17, y17, z17⟩, st17⟩ := Jvm.LawKit.callS X16 hx (y := (⟨"com/example/vestline/vestline/ProRata", "noWeight", "([J)Z"⟩ : MethodName)) hown (mvT hZ (hw _ (List.mem_of_getElem? (i := 7) rfl))) (mvT hZ (hw _ (List.mem_of_getElem? (i := 8) rfl))) (mvT hZ (hw _ (List.mem_of_getElem? (i := 9) rfl))) (mvT hZ (hw _ (List.mem_of_getElem? (i := 10) rfl))) (by decide) (backOf (W := 0) (rm2n2 l Z a0 hw [] b12 k12 (own_pick p2 (0 : Int32) q3) (own_pick p2 (1 : Int32) q4) h16 n0 Z16 V16) hZ (hw _ (List.mem_of_getElem? (i := 10) rfl)) (hw _ (List.mem_of_getElem? (i := 9) rfl)) (by decide) (by decide)) (g := (mkF m 157 #[.val (.int p1), .val (.int p2), .val (.long q3), .second, .val (.long q4), .second, .val (.long q5), .second, .val (.long q6), .second, .val (.int (2 : Int32)), .val (.long (own_pick p2 (0 : Int32) q3)), .second, .val (.long (own_pick p2 (1 : Int32) q4)), .second, .val (.long (own_pick p2 (2 : Int32) q5)), .second, .val (.long (own_pick p2 (3 : Int32) q6)), .second, .val (.ref b12), .val (.int j96_S0k2)] [(.ref b12)])) rfl (by rw [hml]; rfl) (argsL := [(.ref b12)]) (rest := []) (lenOf pd0_1 rfl) rfl (by show 2 * 0 + _ ≤ _; exact Nat.le_of_eq rfl) (hb hby at_157) (fun _ _ => ⟨rfl, e16, (by decide : 1 + 0 ≤ _), (by decide : 2 + 0 ≤ _)⟩)
    dsimp only [Pt.U, Pt.locs, Pt.cells, Pt.slots] at X17 l17 y17 z17 st17 hQ17
    subst l17 y17 z17
    obtain ⟨rfl, N17q, e17⟩ := hQ17
    have N17 := Fr.app N16 N17q
    obtain ⟨fs, hr, hrun, hended, hW, hsame⟩ := X17.leave (v := some (.int (1 : Int32))) (fun h => by rw [Bd.returns] at h; cases h)
    refine ⟨_, _, c5 _ ?_, hrun, hended, _, _, rfl, ?_, ⟨_, rfl⟩, hW, hsame.mono (by decide) (by decide)⟩
    · show Steps p.tables e below (T4.setTop (mkF m 43 #[.val (.int p1), .val (.int p2), .val (.long q3), .second, .val (.long q4), .second, .val (.long q5), .second, .val (.long q6), .second, .val (.int (2 : Int32)), .val (.long (own_pick p2 (0 : Int32) q3)), .second, .val (.long (own_pick p2 (1 : Int32) q4)), .second, .val (.long (own_pick p2 (2 : Int32) q5)), .second, .val (.long (own_pick p2 (3 : Int32) q6)), .second, .unset, .unset] [])) _
      refine XS.iload X4.here hx rfl (hb hby at_43) rfl ?_
      show Steps p.tables e below (T4.setTop (mkF m 45 #[.val (.int p1), .val (.int p2), .val (.long q3), .second, .val (.long q4), .second, .val (.long q5), .second, .val (.long q6), .second, .val (.int (2 : Int32)), .val (.long (own_pick p2 (0 : Int32) q3)), .second, .val (.long (own_pick p2 (1 : Int32) q4)), .second, .val (.long (own_pick p2 (2 : Int32) q5)), .second, .val (.long (own_pick p2 (3 : Int32) q6)), .second, .unset, .unset] [(.int (2 : Int32))])) _
      refine st12 _ ?_
      show Steps p.tables e below (T12.setTop (mkF m 47 #[.val (.int p1), .val (.int p2), .val (.long q3), .second, .val (.long q4), .second, .val (.long q5), .second, .val (.long q6), .second, .val (.int (2 : Int32)), .val (.long (own_pick p2 (0 : Int32) q3)), .second, .val (.long (own_pick p2 (1 : Int32) q4)), .second, .val (.long (own_pick p2 (2 : Int32) q5)), .second, .val (.long (own_pick p2 (3 : Int32) q6)), .second, .unset, .unset] [(.ref b12)])) _
      refine XS.astore X12.here hx rfl (hb hby at_47) rfl rfl (l' := #[.val (.int p1), .val (.int p2), .val (.long q3), .second, .val (.long q4), .second, .val (.long q5), .second, .val (.long q6), .second, .val (.int (2 : Int32)), .val (.long (own_pick p2 (0 : Int32) q3)), .second, .val (.long (own_pick p2 (1 : Int32) q4)), .second, .val (.long (own_pick p2 (2 : Int32) q5)), .second, .val (.long (own_pick p2 (3 : Int32) q6)), .second, .val (.ref b12), .unset]) rfl ?_
      show Steps p.tables e below (T12.setTop (mkF m 49 #[.val (.int p1), .val (.int p2), .val (.long q3), .second, .val (.long q4), .second, .val (.long q5), .second, .val (.long q6), .second, .val (.int (2 : Int32)), .val (.long (own_pick p2 (0 : Int32) q3)), .second, .val (.long (own_pick p2 (1 : Int32) q4)), .second, .val (.long (own_pick p2 (2 : Int32) q5)), .second, .val (.long (own_pick p2 (3 : Int32) q6)), .second, .val (.ref b12), .unset] [])) _
      refine XS.iload X12.here hx rfl (hb hby at_49) rfl ?_
      show Steps p.tables e below (T12.setTop (mkF m 51 #[.val (.int p1), .val (.int p2), .val (.long q3), .second, .val (.long q4), .second, .val (.long q5), .second, .val (.long q6), .second, .val (.int (2 : Int32)), .val (.long (own_pick p2 (0 : Int32) q3)), .second, .val (.long (own_pick p2 (1 : Int32) q4)), .second, .val (.long (own_pick p2 (2 : Int32) q5)), .second, .val (.long (own_pick p2 (3 : Int32) q6)), .second, .val (.ref b12), .unset] [(.int (2 : Int32))])) _
      refine XS.ifNo X12.here hx rfl (hb hby at_51) rfl ((if0 _ _).trans (tlt (by decide)).2.2.2) ?_
      show Steps p.tables e below (T12.setTop (mkF m 54 #[.val (.int p1), .val (.int p2), .val (.long q3), .second, .val (.long q4), .second, .val (.long q5), .second, .val (.long q6), .second, .val (.int (2 : Int32)), .val (.long (own_pick p2 (0 : Int32) q3)), .second, .val (.long (own_pick p2 (1 : Int32) q4)), .second, .val (.long (own_pick p2 (2 : Int32) q5)), .second, .val (.long (own_pick p2 (3 : Int32) q6)), .second, .val (.ref b12), .unset] [])) _
      refine XS.aload X12.here hx rfl (hb hby at_54) rfl rfl ?_
      show Steps p.tables e below (T12.setTop (mkF m 56 #[.val (.int p1), .val (.int p2), .val (.long q3), .second, .val (.long q4), .second, .val (.long q5), .second, .val (.long q6), .second, .val (.int (2 : Int32)), .val (.long (own_pick p2 (0 : Int32) q3)), .second, .val (.long (own_pick p2 (1 : Int32) q4)), .second, .val (.long (own_pick p2 (2 : Int32) q5)), .second, .val (.long (own_pick p2 (3 : Int32) q6)), .second, .val (.ref b12), .unset] [(.ref b12)])) _
      refine XS.iconst X12.here hx rfl (hb hby at_56) ?_
      show Steps p.tables e below (T12.setTop (mkF m 57 #[.val (.int p1), .val (.int p2), .val (.long q3), .second, .val (.long q4), .second, .val (.long q5), .second, .val (.long q6), .second, .val (.int (2 : Int32)), .val (.long (own_pick p2 (0 : Int32) q3)), .second, .val (.long (own_pick p2 (1 : Int32) q4)), .second, .val (.long (own_pick p2 (2 : Int32) q5)), .second, .val (.long (own_pick p2 (3 : Int32) q6)), .second, .val (.ref b12), .unset] [(.int (0 : Int32)), (.ref b12)])) _
      refine XS.lload X12.here hx rfl (hb hby at_57) rfl ?_
      show Steps p.tables e below (T12.setTop (mkF m 59 #[.val (.int p1), .val (.int p2), .val (.long q3), .second, .val (.long q4), .second, .val (.long q5), .second, .val (.long q6), .second, .val (.int (2 : Int32)), .val (.long (own_pick p2 (0 : Int32) q3)), .second, .val (.long (own_pick p2 (1 : Int32) q4)), .second, .val (.long (own_pick p2 (2 : Int32) q5)), .second, .val (.long (own_pick p2 (3 : Int32) q6)), .second, .val (.ref b12), .unset] [(.long (own_pick p2 (0 : Int32) q3)), (.int (0 : Int32)), (.ref b12)])) _
      refine st14 _ ?_
      show Steps p.tables e below (T14.setTop (mkF m 60 #[.val (.int p1), .val (.int p2), .val (.long q3), .second, .val (.long q4), .second, .val (.long q5), .second, .val (.long q6), .second, .val (.int (2 : Int32)), .val (.long (own_pick p2 (0 : Int32) q3)), .second, .val (.long (own_pick p2 (1 : Int32) q4)), .second, .val (.long (own_pick p2 (2 : Int32) q5)), .second, .val (.long (own_pick p2 (3 : Int32) q6)), .second, .val (.ref b12), .unset] [])) _
      refine XS.iload X14.here hx rfl (hb hby at_60) rfl ?_
      show Steps p.tables e below (T14.setTop (mkF m 62 #[.val (.int p1), .val (.int p2), .val (.long q3), .second, .val (.long q4), .second, .val (.long q5), .second, .val (.long q6), .second, .val (.int (2 : Int32)), .val (.long (own_pick p2 (0 : Int32) q3)), .second, .val (.long (own_pick p2 (1 : Int32) q4)), .second, .val (.long (own_pick p2 (2 : Int32) q5)), .second, .val (.long (own_pick p2 (3 : Int32) q6)), .second, .val (.ref b12), .unset] [(.int (2 : Int32))])) _
      refine XS.iconst X14.here hx rfl (hb hby at_62) ?_
      show Steps p.tables e below (T14.setTop (mkF m 63 #[.val (.int p1), .val (.int p2), .val (.long q3), .second, .val (.long q4), .second, .val (.long q5), .second, .val (.long q6), .second, .val (.int (2 : Int32)), .val (.long (own_pick p2 (0 : Int32) q3)), .second, .val (.long (own_pick p2 (1 : Int32) q4)), .second, .val (.long (own_pick p2 (2 : Int32) q5)), .second, .val (.long (own_pick p2 (3 : Int32) q6)), .second, .val (.ref b12), .unset] [(.int (1 : Int32)), (.int (2 : Int32))])) _
      refine XS.icmpNo X14.here hx rfl (hb hby at_63) rfl (tlt (by decide)).2.2.2 ?_
      show Steps p.tables e below (T14.setTop (mkF m 66 #[.val (.int p1), .val (.int p2), .val (.long q3), .second, .val (.long q4), .second, .val (.long q5), .second, .val (.long q6), .second, .val (.int (2 : Int32)), .val (.long (own_pick p2 (0 : Int32) q3)), .second, .val (.long (own_pick p2 (1 : Int32) q4)), .second, .val (.long (own_pick p2 (2 : Int32) q5)), .second, .val (.long (own_pick p2 (3 : Int32) q6)), .second, .val (.ref b12), .unset] [])) _
      refine XS.aload X14.here hx rfl (hb hby at_66) rfl rfl ?_
      show Steps p.tables e below (T14.setTop (mkF m 68 #[.val (.int p1), .val (.int p2), .val (.long q3), .second, .val (.long q4), .second, .val (.long q5), .second, .val (.long q6), .second, .val (.int (2 : Int32)), .val (.long (own_pick p2 (0 : Int32) q3)), .second, .val (.long (own_pick p2 (1 : Int32) q4)), .second, .val (.long (own_pick p2 (2 : Int32) q5)), .second, .val (.long (own_pick p2 (3 : Int32) q6)), .second, .val (.ref b12), .unset] [(.ref b12)])) _
      refine XS.iconst X14.here hx rfl (hb hby at_68) ?_
      show Steps p.tables e below (T14.setTop (mkF m 69 #[.val (.int p1), .val (.int p2), .val (.long q3), .second, .val (.long q4), .second, .val (.long q5), .second, .val (.long q6), .second, .val (.int (2 : Int32)), .val (.long (own_pick p2 (0 : Int32) q3)), .second, .val (.long (own_pick p2 (1 : Int32) q4)), .second, .val (.long (own_pick p2 (2 : Int32) q5)), .second, .val (.long (own_pick p2 (3 : Int32) q6)), .second, .val (.ref b12), .unset] [(.int (1 : Int32)), (.ref b12)])) _
      refine XS.lload X14.here hx rfl (hb hby at_69) rfl ?_
      show Steps p.tables e below (T14.setTop (mkF m 71 #[.val (.int p1), .val (.int p2), .val (.long q3), .second, .val (.long q4), .second, .val (.long q5), .second, .val (.long q6), .second, .val (.int (2 : Int32)), .val (.long (own_pick p2 (0 : Int32) q3)), .second, .val (.long (own_pick p2 (1 : Int32) q4)), .second, .val (.long (own_pick p2 (2 : Int32) q5)), .second, .val (.long (own_pick p2 (3 : Int32) q6)), .second, .val (.ref b12), .unset] [(.long (own_pick p2 (1 : Int32) q4)), (.int (1 : Int32)), (.ref b12)])) _
      refine st16 _ ?_
      show Steps p.tables e below (T16.setTop (mkF m 72 #[.val (.int p1), .val (.int p2), .val (.long q3), .second, .val (.long q4), .second, .val (.long q5), .second, .val (.long q6), .second, .val (.int (2 : Int32)), .val (.long (own_pick p2 (0 : Int32) q3)), .second, .val (.long (own_pick p2 (1 : Int32) q4)), .second, .val (.long (own_pick p2 (2 : Int32) q5)), .second, .val (.long (own_pick p2 (3 : Int32) q6)), .second, .val (.ref b12), .unset] [])) _
      refine XS.iload X16.here hx rfl (hb hby at_72) rfl ?_
      show Steps p.tables e below (T16.setTop (mkF m 74 #[.val (.int p1), .val (.int p2), .val (.long q3), .second, .val (.long q4), .second, .val (.long q5), .second, .val (.long q6), .second, .val (.int (2 : Int32)), .val (.long (own_pick p2 (0 : Int32) q3)), .second, .val (.long (own_pick p2 (1 : Int32) q4)), .second, .val (.long (own_pick p2 (2 : Int32) q5)), .second, .val (.long (own_pick p2 (3 : Int32) q6)), .second, .val (.ref b12), .unset] [(.int (2 : Int32))])) _
      refine XS.iconst X16.here hx rfl (hb hby at_74) ?_
      show Steps p.tables e below (T16.setTop (mkF m 75 #[.val (.int p1), .val (.int p2), .val (.long q3), .second, .val (.long q4), .second, .val (.long q5), .second, .val (.long q6), .second, .val (.int (2 : Int32)), .val (.long (own_pick p2 (0 : Int32) q3)), .second, .val (.long (own_pick p2 (1 : Int32) q4)), .second, .val (.long (own_pick p2 (2 : Int32) q5)), .second, .val (.long (own_pick p2 (3 : Int32) q6)), .second, .val (.ref b12), .unset] [(.int (2 : Int32)), (.int (2 : Int32))])) _
      refine XS.icmpYes X16.here hx rfl (pc0 := 75) (pc' := 84) rfl (hb hby at_75) rfl (flt (by decide)).2.2.2 (by decide) (by decide) ?_
      show Steps p.tables e below (T16.setTop (mkF m 84 #[.val (.int p1), .val (.int p2), .val (.long q3), .second, .val (.long q4), .second, .val (.long q5), .second, .val (.long q6), .second, .val (.int (2 : Int32)), .val (.long (own_pick p2 (0 : Int32) q3)), .second, .val (.long (own_pick p2 (1 : Int32) q4)), .second, .val (.long (own_pick p2 (2 : Int32) q5)), .second, .val (.long (own_pick p2 (3 : Int32) q6)), .second, .val (.ref b12), .unset] [])) _
      refine XS.iload X16.here hx rfl (hb hby at_84) rfl ?_
      show Steps p.tables e below (T16.setTop (mkF m 86 #[.val (.int p1), .val (.int p2), .val (.long q3), .second, .val (.long q4), .second, .val (.long q5), .second, .val (.long q6), .second, .val (.int (2 : Int32)), .val (.long (own_pick p2 (0 : Int32) q3)), .second, .val (.long (own_pick p2 (1 : Int32) q4)), .second, .val (.long (own_pick p2 (2 : Int32) q5)), .second, .val (.long (own_pick p2 (3 : Int32) q6)), .second, .val (.ref b12), .unset] [(.int (2 : Int32))])) _
      refine XS.iconst X16.here hx rfl (hb hby at_86) ?_
      show Steps p.tables e below (T16.setTop (mkF m 87 #[.val (.int p1), .val (.int p2), .val (.long q3), .second, .val (.long q4), .second, .val (.long q5), .second, .val (.long q6), .second, .val (.int (2 : Int32)), .val (.long (own_pick p2 (0 : Int32) q3)), .second, .val (.long (own_pick p2 (1 : Int32) q4)), .second, .val (.long (own_pick p2 (2 : Int32) q5)), .second, .val (.long (own_pick p2 (3 : Int32) q6)), .second, .val (.ref b12), .unset] [(.int (3 : Int32)), (.int (2 : Int32))])) _
      refine XS.icmpYes X16.here hx rfl (pc0 := 87) (pc' := 96) rfl (hb hby at_87) rfl (flt (by decide)).2.2.2 (by decide) (by decide) ?_
      show Steps p.tables e below (T16.setTop (mkF m 96 #[.val (.int p1), .val (.int p2), .val (.long q3), .second, .val (.long q4), .second, .val (.long q5), .second, .val (.long q6), .second, .val (.int (2 : Int32)), .val (.long (own_pick p2 (0 : Int32) q3)), .second, .val (.long (own_pick p2 (1 : Int32) q4)), .second, .val (.long (own_pick p2 (2 : Int32) q5)), .second, .val (.long (own_pick p2 (3 : Int32) q6)), .second, .val (.ref b12), .unset] [])) _
      refine sg96k2 _ ?_
      show Steps p.tables e below (T16.setTop (mkF m 153 #[.val (.int p1), .val (.int p2), .val (.long q3), .second, .val (.long q4), .second, .val (.long q5), .second, .val (.long q6), .second, .val (.int (2 : Int32)), .val (.long (own_pick p2 (0 : Int32) q3)), .second, .val (.long (own_pick p2 (1 : Int32) q4)), .second, .val (.long (own_pick p2 (2 : Int32) q5)), .second, .val (.long (own_pick p2 (3 : Int32) q6)), .second, .val (.ref b12), .unset] [(.int j96_S0k2)])) _
      refine XS.istore X16.here hx rfl (hb hby at_153) rfl (l' := #[.val (.int p1), .val (.int p2), .val (.long q3), .second, .val (.long q4), .second, .val (.long q5), .second, .val (.long q6), .second, .val (.int (2 : Int32)), .val (.long (own_pick p2 (0 : Int32) q3)), .second, .val (.long (own_pick p2 (1 : Int32) q4)), .second, .val (.long (own_pick p2 (2 : Int32) q5)), .second, .val (.long (own_pick p2 (3 : Int32) q6)), .second, .val (.ref b12), .val (.int j96_S0k2)]) rfl ?_
      show Steps p.tables e below (T16.setTop (mkF m 155 #[.val (.int p1), .val (.int p2), .val (.long q3), .second, .val (.long q4), .second, .val (.long q5), .second, .val (.long q6), .second, .val (.int (2 : Int32)), .val (.long (own_pick p2 (0 : Int32) q3)), .second, .val (.long (own_pick p2 (1 : Int32) q4)), .second, .val (.long (own_pick p2 (2 : Int32) q5)), .second, .val (.long (own_pick p2 (3 : Int32) q6)), .second, .val (.ref b12), .val (.int j96_S0k2)] [])) _
      refine XS.aload X16.here hx rfl (hb hby at_155) rfl rfl ?_
      show Steps p.tables e below (T16.setTop (mkF m 157 #[.val (.int p1), .val (.int p2), .val (.long q3), .second, .val (.long q4), .second, .val (.long q5), .second, .val (.long q6), .second, .val (.int (2 : Int32)), .val (.long (own_pick p2 (0 : Int32) q3)), .second, .val (.long (own_pick p2 (1 : Int32) q4)), .second, .val (.long (own_pick p2 (2 : Int32) q5)), .second, .val (.long (own_pick p2 (3 : Int32) q6)), .second, .val (.ref b12), .val (.int j96_S0k2)] [(.ref b12)])) _
      refine st17 _ ?_
      show Steps p.tables e below (T17.setTop (mkF m 160 #[.val (.int p1), .val (.int p2), .val (.long q3), .second, .val (.long q4), .second, .val (.long q5), .second, .val (.long q6), .second, .val (.int (2 : Int32)), .val (.long (own_pick p2 (0 : Int32) q3)), .second, .val (.long (own_pick p2 (1 : Int32) q4)), .second, .val (.long (own_pick p2 (2 : Int32) q5)), .second, .val (.long (own_pick p2 (3 : Int32) q6)), .second, .val (.ref b12), .val (.int j96_S0k2)] [(.int (own_nw2 (own_pick p2 (0 : Int32) q3) (own_pick p2 (1 : Int32) q4)))])) _
      refine XS.iload X17.here hx rfl (hb hby at_160) rfl ?_
      show Steps p.tables e below (T17.setTop (mkF m 162 #[.val (.int p1), .val (.int p2), .val (.long q3), .second, .val (.long q4), .second, .val (.long q5), .second, .val (.long q6), .second, .val (.int (2 : Int32)), .val (.long (own_pick p2 (0 : Int32) q3)), .second, .val (.long (own_pick p2 (1 : Int32) q4)), .second, .val (.long (own_pick p2 (2 : Int32) q5)), .second, .val (.long (own_pick p2 (3 : Int32) q6)), .second, .val (.ref b12), .val (.int j96_S0k2)] [(.int j96_S0k2), (.int (own_nw2 (own_pick p2 (0 : Int32) q3) (own_pick p2 (1 : Int32) q4)))])) _
      refine XS.icmpNo X17.here hx rfl (hb hby at_162) rfl (teq (by rw [ej96_S0k2]; rfl)).2 ?_
      show Steps p.tables e below (T17.setTop (mkF m 165 #[.val (.int p1), .val (.int p2), .val (.long q3), .second, .val (.long q4), .second, .val (.long q5), .second, .val (.long q6), .second, .val (.int (2 : Int32)), .val (.long (own_pick p2 (0 : Int32) q3)), .second, .val (.long (own_pick p2 (1 : Int32) q4)), .second, .val (.long (own_pick p2 (2 : Int32) q5)), .second, .val (.long (own_pick p2 (3 : Int32) q6)), .second, .val (.ref b12), .val (.int j96_S0k2)] [])) _
      refine XS.iconst X17.here hx rfl (hb hby at_165) ?_
      show Steps p.tables e below (T17.setTop (mkF m 166 #[.val (.int p1), .val (.int p2), .val (.long q3), .second, .val (.long q4), .second, .val (.long q5), .second, .val (.long q6), .second, .val (.int (2 : Int32)), .val (.long (own_pick p2 (0 : Int32) q3)), .second, .val (.long (own_pick p2 (1 : Int32) q4)), .second, .val (.long (own_pick p2 (2 : Int32) q5)), .second, .val (.long (own_pick p2 (3 : Int32) q6)), .second, .val (.ref b12), .val (.int j96_S0k2)] [(.int (1 : Int32))])) _
      refine XS.goto X17.here hx rfl (pc0 := 166) (pc' := 170) rfl (hb hby at_166) (by decide) (by decide) ?_
      show Steps p.tables e below (T17.setTop (mkF m 170 #[.val (.int p1), .val (.int p2), .val (.long q3), .second, .val (.long q4), .second, .val (.long q5), .second, .val (.long q6), .second, .val (.int (2 : Int32)), .val (.long (own_pick p2 (0 : Int32) q3)), .second, .val (.long (own_pick p2 (1 : Int32) q4)), .second, .val (.long (own_pick p2 (2 : Int32) q5)), .second, .val (.long (own_pick p2 (3 : Int32) q6)), .second, .val (.ref b12), .val (.int j96_S0k2)] [(.int (1 : Int32))])) _
      exact retN X17 hx (t := .boolean) Bd.returns (by simp) (hb hby at_170) hr
    · show Q0 Z p1 p2 q3 q4 q5 q6 h0 n0 _ T17.heap _
      rw [e17]
      exact ⟨rfl, N17⟩
  · rw [hk] at c5
    obtain ⟨T18, h18, k18, X18, e18, E18, A18, st18⟩ := newP X4 hx hZ (hw _ (List.mem_of_getElem? (i := 6) rfl)) e4 (g := (mkF m 45 #[.val (.int p1), .val (.int p2), .val (.long q3), .second, .val (.long q4), .second, .val (.long q5), .second, .val (.long q6), .second, .val (.int (3 : Int32)), .val (.long (own_pick p2 (0 : Int32) q3)), .second, .val (.long (own_pick p2 (1 : Int32) q4)), .second, .val (.long (own_pick p2 (2 : Int32) q5)), .second, .val (.long (own_pick p2 (3 : Int32) q6)), .second, .unset, .unset] [(.int (3 : Int32))])) rfl (hb hby at_45) rfl (by decide) (cap := 3) (by decide) (by decide) (by decide) (by decide)
    obtain ⟨b18, g18⟩ : ∃ z, z = h0.size := ⟨_, rfl⟩
    rw [← g18] at A18 st18
    have g_b18 : n0 ≤ b18 := Nat.le_trans Z0 (Nat.le_of_eq g18.symm)
    have Z18 : n0 ≤ h18.size := Nat.le_trans Z0 E18.1
    have V18 : Arv Z h18 b18 k18 .long (3 : Int32) [(.long (0 : Int64)), (.long (0 : Int64)), (.long (0 : Int64))] (.long (0 : Int64)) := (Arv.new A18 (by decide)).pad (pad_rep [] (.long (0 : Int64)) 3)
    have cp59_19 := V18
    obtain ⟨cl59_19, Ar59_19, qa59_19, Sa59_19, Na59_19, Ha59_19, Ga59_19⟩ := cp59_19
    have hin59_19 : ¬ ((0 : Int32) < 0 ∨ cl59_19.slots.size ≤ ((0 : Int32)).toNatClampNeg) := inb_of Sa59_19 ⟨by decide, by decide⟩
    obtain ⟨T20, h20, X20, e20, W20, st20⟩ := stJ X18 hx hZ e18 Ar59_19 (j := (0 : Int32)) hin59_19 (g := (mkF m 59 #[.val (.int p1), .val (.int p2), .val (.long q3), .second, .val (.long q4), .second, .val (.long q5), .second, .val (.long q6), .second, .val (.int (3 : Int32)), .val (.long (own_pick p2 (0 : Int32) q3)), .second, .val (.long (own_pick p2 (1 : Int32) q4)), .second, .val (.long (own_pick p2 (2 : Int32) q5)), .second, .val (.long (own_pick p2 (3 : Int32) q6)), .second, .val (.ref b18), .unset] [(.long (own_pick p2 (0 : Int32) q3)), (.int (0 : Int32)), (.ref b18)])) rfl rfl (hb hby at_59)
    have V20 : Arv Z h20 b18 k18 .long (3 : Int32) [(.long (own_pick p2 (0 : Int32) q3)), (.long (0 : Int64)), (.long (0 : Int64))] (.long (0 : Int64)) := Arv.set Ar59_19 qa59_19 Sa59_19 Na59_19 Ha59_19 Ga59_19 rfl W20 0 rfl (Nat.le_of_ble_eq_true rfl)
    have N20 := Fr.snoc X20 N4 g_b18
    have Z20 : n0 ≤ h20.size := Nat.le_trans Z18 (Keep.of_wr W20).1
    have cp71_21 := V20
    obtain ⟨cl71_21, Ar71_21, qa71_21, Sa71_21, Na71_21, Ha71_21, Ga71_21⟩ := cp71_21
    have hin71_21 : ¬ ((1 : Int32) < 0 ∨ cl71_21.slots.size ≤ ((1 : Int32)).toNatClampNeg) := inb_of Sa71_21 ⟨by decide, by decide⟩
    obtain ⟨T22, h22, X22, e22, W22, st22⟩ := stJ X20 hx hZ e20 Ar71_21 (j := (1 : Int32)) hin71_21 (g := (mkF m 71 #[.val (.int p1), .val (.int p2), .val (.long q3), .second, .val (.long q4), .second, .val (.long q5), .second, .val (.long q6), .second, .val (.int (3 : Int32)), .val (.long (own_pick p2 (0 : Int32) q3)), .second, .val (.long (own_pick p2 (1 : Int32) q4)), .second, .val (.long (own_pick p2 (2 : Int32) q5)), .second, .val (.long (own_pick p2 (3 : Int32) q6)), .second, .val (.ref b18), .unset] [(.long (own_pick p2 (1 : Int32) q4)), (.int (1 : Int32)), (.ref b18)])) rfl rfl (hb hby at_71)
    have V22 : Arv Z h22 b18 k18 .long (3 : Int32) [(.long (own_pick p2 (0 : Int32) q3)), (.long (own_pick p2 (1 : Int32) q4)), (.long (0 : Int64))] (.long (0 : Int64)) := Arv.set Ar71_21 qa71_21 Sa71_21 Na71_21 Ha71_21 Ga71_21 rfl W22 1 rfl (Nat.le_of_ble_eq_true rfl)
    have N22 := Fr.snoc X22 N20 g_b18
    have Z22 : n0 ≤ h22.size := Nat.le_trans Z20 (Keep.of_wr W22).1
    have cp83_23 := V22
    obtain ⟨cl83_23, Ar83_23, qa83_23, Sa83_23, Na83_23, Ha83_23, Ga83_23⟩ := cp83_23
    have hin83_23 : ¬ ((2 : Int32) < 0 ∨ cl83_23.slots.size ≤ ((2 : Int32)).toNatClampNeg) := inb_of Sa83_23 ⟨by decide, by decide⟩
    obtain ⟨T24, h24, X24, e24, W24, st24⟩ := stJ X22 hx hZ e22 Ar83_23 (j := (2 : Int32)) hin83_23 (g := (mkF m 83 #[.val (.int p1), .val (.int p2), .val (.long q3), .second, .val (.long q4), .second, .val (.long q5), .second, .val (.long q6), .second, .val (.int (3 : Int32)), .val (.long (own_pick p2 (0 : Int32) q3)), .second, .val (.long (own_pick p2 (1 : Int32) q4)), .second, .val (.long (own_pick p2 (2 : Int32) q5)), .second, .val (.long (own_pick p2 (3 : Int32) q6)), .second, .val (.ref b18), .unset] [(.long (own_pick p2 (2 : Int32) q5)), (.int (2 : Int32)), (.ref b18)])) rfl rfl (hb hby at_83)
    have V24 : Arv Z h24 b18 k18 .long (3 : Int32) [(.long (own_pick p2 (0 : Int32) q3)), (.long (own_pick p2 (1 : Int32) q4)), (.long (own_pick p2 (2 : Int32) q5))] (.long (0 : Int64)) := Arv.set Ar83_23 qa83_23 Sa83_23 Na83_23 Ha83_23 Ga83_23 rfl W24 2 rfl (Nat.le_of_ble_eq_true rfl)
    have N24 := Fr.snoc X24 N22 g_b18
    have Z24 : n0 ≤ h24.size := Nat.le_trans Z22 (Keep.of_wr W24).1
    obtain ⟨j96_S0k3, ej96_S0k3⟩ : ∃ z : Int32, z = (if (own_pick p2 (0 : Int32) q3) = (0 : Int64) then (if (own_pick p2 (1 : Int32) q4) = (0 : Int64) then (if (own_pick p2 (2 : Int32) q5) = (0 : Int64) then (1 : Int32) else (0 : Int32)) else (0 : Int32)) else (0 : Int32)) := ⟨_, rfl⟩
    have sg96k3 : ∀ t, Steps p.tables e below (T24.setTop (mkF m 153 #[.val (.int p1), .val (.int p2), .val (.long q3), .second, .val (.long q4), .second, .val (.long q5), .second, .val (.long q6), .second, .val (.int (3 : Int32)), .val (.long (own_pick p2 (0 : Int32) q3)), .second, .val (.long (own_pick p2 (1 : Int32) q4)), .second, .val (.long (own_pick p2 (2 : Int32) q5)), .second, .val (.long (own_pick p2 (3 : Int32) q6)), .second, .val (.ref b18), .unset] [(.int j96_S0k3)])) t → Steps p.tables e below (T24.setTop (mkF m 96 #[.val (.int p1), .val (.int p2), .val (.long q3), .second, .val (.long q4), .second, .val (.long q5), .second, .val (.long q6), .second, .val (.int (3 : Int32)), .val (.long (own_pick p2 (0 : Int32) q3)), .second, .val (.long (own_pick p2 (1 : Int32) q4)), .second, .val (.long (own_pick p2 (2 : Int32) q5)), .second, .val (.long (own_pick p2 (3 : Int32) q6)), .second, .val (.ref b18), .unset] [])) t := fun t kt => by
      show Steps p.tables e below (T24.setTop (mkF m 96 #[.val (.int p1), .val (.int p2), .val (.long q3), .second, .val (.long q4), .second, .val (.long q5), .second, .val (.long q6), .second, .val (.int (3 : Int32)), .val (.long (own_pick p2 (0 : Int32) q3)), .second, .val (.long (own_pick p2 (1 : Int32) q4)), .second, .val (.long (own_pick p2 (2 : Int32) q5)), .second, .val (.long (own_pick p2 (3 : Int32) q6)), .second, .val (.ref b18), .unset] [])) _
      refine XS.iload X24.here hx rfl (hb hby at_96) rfl ?_
      show Steps p.tables e below (T24.setTop (mkF m 98 #[.val (.int p1), .val (.int p2), .val (.long q3), .second, .val (.long q4), .second, .val (.long q5), .second, .val (.long q6), .second, .val (.int (3 : Int32)), .val (.long (own_pick p2 (0 : Int32) q3)), .second, .val (.long (own_pick p2 (1 : Int32) q4)), .second, .val (.long (own_pick p2 (2 : Int32) q5)), .second, .val (.long (own_pick p2 (3 : Int32) q6)), .second, .val (.ref b18), .unset] [(.int (3 : Int32))])) _
      refine XS.iconst X24.here hx rfl (hb hby at_98) ?_
      show Steps p.tables e below (T24.setTop (mkF m 99 #[.val (.int p1), .val (.int p2), .val (.long q3), .second, .val (.long q4), .second, .val (.long q5), .second, .val (.long q6), .second, .val (.int (3 : Int32)), .val (.long (own_pick p2 (0 : Int32) q3)), .second, .val (.long (own_pick p2 (1 : Int32) q4)), .second, .val (.long (own_pick p2 (2 : Int32) q5)), .second, .val (.long (own_pick p2 (3 : Int32) q6)), .second, .val (.ref b18), .unset] [(.int (1 : Int32)), (.int (3 : Int32))])) _
      refine XS.icmpNo X24.here hx rfl (hb hby at_99) rfl (flt (by decide)).1 ?_
      show Steps p.tables e below (T24.setTop (mkF m 102 #[.val (.int p1), .val (.int p2), .val (.long q3), .second, .val (.long q4), .second, .val (.long q5), .second, .val (.long q6), .second, .val (.int (3 : Int32)), .val (.long (own_pick p2 (0 : Int32) q3)), .second, .val (.long (own_pick p2 (1 : Int32) q4)), .second, .val (.long (own_pick p2 (2 : Int32) q5)), .second, .val (.long (own_pick p2 (3 : Int32) q6)), .second, .val (.ref b18), .unset] [])) _
      refine XS.lload X24.here hx rfl (hb hby at_102) rfl ?_
      show Steps p.tables e below (T24.setTop (mkF m 104 #[.val (.int p1), .val (.int p2), .val (.long q3), .second, .val (.long q4), .second, .val (.long q5), .second, .val (.long q6), .second, .val (.int (3 : Int32)), .val (.long (own_pick p2 (0 : Int32) q3)), .second, .val (.long (own_pick p2 (1 : Int32) q4)), .second, .val (.long (own_pick p2 (2 : Int32) q5)), .second, .val (.long (own_pick p2 (3 : Int32) q6)), .second, .val (.ref b18), .unset] [(.long (own_pick p2 (0 : Int32) q3))])) _
      refine XS.lconst X24.here hx rfl (hb hby at_104) ?_
      show Steps p.tables e below (T24.setTop (mkF m 105 #[.val (.int p1), .val (.int p2), .val (.long q3), .second, .val (.long q4), .second, .val (.long q5), .second, .val (.long q6), .second, .val (.int (3 : Int32)), .val (.long (own_pick p2 (0 : Int32) q3)), .second, .val (.long (own_pick p2 (1 : Int32) q4)), .second, .val (.long (own_pick p2 (2 : Int32) q5)), .second, .val (.long (own_pick p2 (3 : Int32) q6)), .second, .val (.ref b18), .unset] [(.long (0 : Int64)), (.long (own_pick p2 (0 : Int32) q3))])) _
      refine XS.lcmp X24.here hx rfl (hb hby at_105) rfl ?_
      by_cases hc106 : (own_pick p2 (0 : Int32) q3) = (0 : Int64)
      · show Steps p.tables e below (T24.setTop (mkF m 106 #[.val (.int p1), .val (.int p2), .val (.long q3), .second, .val (.long q4), .second, .val (.long q5), .second, .val (.long q6), .second, .val (.int (3 : Int32)), .val (.long (own_pick p2 (0 : Int32) q3)), .second, .val (.long (own_pick p2 (1 : Int32) q4)), .second, .val (.long (own_pick p2 (2 : Int32) q5)), .second, .val (.long (own_pick p2 (3 : Int32) q6)), .second, .val (.ref b18), .unset] [(.int (lcmpW (own_pick p2 (0 : Int32) q3) (0 : Int64)))])) _
        refine XS.ifNo X24.here hx rfl (hb hby at_106) rfl ((if0 _ _).trans (teq ((lw_eq (own_pick p2 (0 : Int32) q3) (0 : Int64)).mpr hc106)).2) ?_
        show Steps p.tables e below (T24.setTop (mkF m 109 #[.val (.int p1), .val (.int p2), .val (.long q3), .second, .val (.long q4), .second, .val (.long q5), .second, .val (.long q6), .second, .val (.int (3 : Int32)), .val (.long (own_pick p2 (0 : Int32) q3)), .second, .val (.long (own_pick p2 (1 : Int32) q4)), .second, .val (.long (own_pick p2 (2 : Int32) q5)), .second, .val (.long (own_pick p2 (3 : Int32) q6)), .second, .val (.ref b18), .unset] [])) _
        refine XS.iload X24.here hx rfl (hb hby at_109) rfl ?_
        show Steps p.tables e below (T24.setTop (mkF m 111 #[.val (.int p1), .val (.int p2), .val (.long q3), .second, .val (.long q4), .second, .val (.long q5), .second, .val (.long q6), .second, .val (.int (3 : Int32)), .val (.long (own_pick p2 (0 : Int32) q3)), .second, .val (.long (own_pick p2 (1 : Int32) q4)), .second, .val (.long (own_pick p2 (2 : Int32) q5)), .second, .val (.long (own_pick p2 (3 : Int32) q6)), .second, .val (.ref b18), .unset] [(.int (3 : Int32))])) _
        refine XS.iconst X24.here hx rfl (hb hby at_111) ?_
        show Steps p.tables e below (T24.setTop (mkF m 112 #[.val (.int p1), .val (.int p2), .val (.long q3), .second, .val (.long q4), .second, .val (.long q5), .second, .val (.long q6), .second, .val (.int (3 : Int32)), .val (.long (own_pick p2 (0 : Int32) q3)), .second, .val (.long (own_pick p2 (1 : Int32) q4)), .second, .val (.long (own_pick p2 (2 : Int32) q5)), .second, .val (.long (own_pick p2 (3 : Int32) q6)), .second, .val (.ref b18), .unset] [(.int (2 : Int32)), (.int (3 : Int32))])) _
        refine XS.icmpNo X24.here hx rfl (hb hby at_112) rfl (flt (by decide)).1 ?_
        show Steps p.tables e below (T24.setTop (mkF m 115 #[.val (.int p1), .val (.int p2), .val (.long q3), .second, .val (.long q4), .second, .val (.long q5), .second, .val (.long q6), .second, .val (.int (3 : Int32)), .val (.long (own_pick p2 (0 : Int32) q3)), .second, .val (.long (own_pick p2 (1 : Int32) q4)), .second, .val (.long (own_pick p2 (2 : Int32) q5)), .second, .val (.long (own_pick p2 (3 : Int32) q6)), .second, .val (.ref b18), .unset] [])) _
        refine XS.lload X24.here hx rfl (hb hby at_115) rfl ?_
        show Steps p.tables e below (T24.setTop (mkF m 117 #[.val (.int p1), .val (.int p2), .val (.long q3), .second, .val (.long q4), .second, .val (.long q5), .second, .val (.long q6), .second, .val (.int (3 : Int32)), .val (.long (own_pick p2 (0 : Int32) q3)), .second, .val (.long (own_pick p2 (1 : Int32) q4)), .second, .val (.long (own_pick p2 (2 : Int32) q5)), .second, .val (.long (own_pick p2 (3 : Int32) q6)), .second, .val (.ref b18), .unset] [(.long (own_pick p2 (1 : Int32) q4))])) _
        refine XS.lconst X24.here hx rfl (hb hby at_117) ?_
        show Steps p.tables e below (T24.setTop (mkF m 118 #[.val (.int p1), .val (.int p2), .val (.long q3), .second, .val (.long q4), .second, .val (.long q5), .second, .val (.long q6), .second, .val (.int (3 : Int32)), .val (.long (own_pick p2 (0 : Int32) q3)), .second, .val (.long (own_pick p2 (1 : Int32) q4)), .second, .val (.long (own_pick p2 (2 : Int32) q5)), .second, .val (.long (own_pick p2 (3 : Int32) q6)), .second, .val (.ref b18), .unset] [(.long (0 : Int64)), (.long (own_pick p2 (1 : Int32) q4))])) _
        refine XS.lcmp X24.here hx rfl (hb hby at_118) rfl ?_
        by_cases hc119 : (own_pick p2 (1 : Int32) q4) = (0 : Int64)
        · show Steps p.tables e below (T24.setTop (mkF m 119 #[.val (.int p1), .val (.int p2), .val (.long q3), .second, .val (.long q4), .second, .val (.long q5), .second, .val (.long q6), .second, .val (.int (3 : Int32)), .val (.long (own_pick p2 (0 : Int32) q3)), .second, .val (.long (own_pick p2 (1 : Int32) q4)), .second, .val (.long (own_pick p2 (2 : Int32) q5)), .second, .val (.long (own_pick p2 (3 : Int32) q6)), .second, .val (.ref b18), .unset] [(.int (lcmpW (own_pick p2 (1 : Int32) q4) (0 : Int64)))])) _
          refine XS.ifNo X24.here hx rfl (hb hby at_119) rfl ((if0 _ _).trans (teq ((lw_eq (own_pick p2 (1 : Int32) q4) (0 : Int64)).mpr hc119)).2) ?_
          show Steps p.tables e below (T24.setTop (mkF m 122 #[.val (.int p1), .val (.int p2), .val (.long q3), .second, .val (.long q4), .second, .val (.long q5), .second, .val (.long q6), .second, .val (.int (3 : Int32)), .val (.long (own_pick p2 (0 : Int32) q3)), .second, .val (.long (own_pick p2 (1 : Int32) q4)), .second, .val (.long (own_pick p2 (2 : Int32) q5)), .second, .val (.long (own_pick p2 (3 : Int32) q6)), .second, .val (.ref b18), .unset] [])) _
          refine XS.iload X24.here hx rfl (hb hby at_122) rfl ?_
          show Steps p.tables e below (T24.setTop (mkF m 124 #[.val (.int p1), .val (.int p2), .val (.long q3), .second, .val (.long q4), .second, .val (.long q5), .second, .val (.long q6), .second, .val (.int (3 : Int32)), .val (.long (own_pick p2 (0 : Int32) q3)), .second, .val (.long (own_pick p2 (1 : Int32) q4)), .second, .val (.long (own_pick p2 (2 : Int32) q5)), .second, .val (.long (own_pick p2 (3 : Int32) q6)), .second, .val (.ref b18), .unset] [(.int (3 : Int32))])) _
          refine XS.iconst X24.here hx rfl (hb hby at_124) ?_
          show Steps p.tables e below (T24.setTop (mkF m 125 #[.val (.int p1), .val (.int p2), .val (.long q3), .second, .val (.long q4), .second, .val (.long q5), .second, .val (.long q6), .second, .val (.int (3 : Int32)), .val (.long (own_pick p2 (0 : Int32) q3)), .second, .val (.long (own_pick p2 (1 : Int32) q4)), .second, .val (.long (own_pick p2 (2 : Int32) q5)), .second, .val (.long (own_pick p2 (3 : Int32) q6)), .second, .val (.ref b18), .unset] [(.int (3 : Int32)), (.int (3 : Int32))])) _
          refine XS.icmpNo X24.here hx rfl (hb hby at_125) rfl (flt (by decide)).1 ?_
          show Steps p.tables e below (T24.setTop (mkF m 128 #[.val (.int p1), .val (.int p2), .val (.long q3), .second, .val (.long q4), .second, .val (.long q5), .second, .val (.long q6), .second, .val (.int (3 : Int32)), .val (.long (own_pick p2 (0 : Int32) q3)), .second, .val (.long (own_pick p2 (1 : Int32) q4)), .second, .val (.long (own_pick p2 (2 : Int32) q5)), .second, .val (.long (own_pick p2 (3 : Int32) q6)), .second, .val (.ref b18), .unset] [])) _
          refine XS.lload X24.here hx rfl (hb hby at_128) rfl ?_
          show Steps p.tables e below (T24.setTop (mkF m 130 #[.val (.int p1), .val (.int p2), .val (.long q3), .second, .val (.long q4), .second, .val (.long q5), .second, .val (.long q6), .second, .val (.int (3 : Int32)), .val (.long (own_pick p2 (0 : Int32) q3)), .second, .val (.long (own_pick p2 (1 : Int32) q4)), .second, .val (.long (own_pick p2 (2 : Int32) q5)), .second, .val (.long (own_pick p2 (3 : Int32) q6)), .second, .val (.ref b18), .unset] [(.long (own_pick p2 (2 : Int32) q5))])) _
          refine XS.lconst X24.here hx rfl (hb hby at_130) ?_
          show Steps p.tables e below (T24.setTop (mkF m 131 #[.val (.int p1), .val (.int p2), .val (.long q3), .second, .val (.long q4), .second, .val (.long q5), .second, .val (.long q6), .second, .val (.int (3 : Int32)), .val (.long (own_pick p2 (0 : Int32) q3)), .second, .val (.long (own_pick p2 (1 : Int32) q4)), .second, .val (.long (own_pick p2 (2 : Int32) q5)), .second, .val (.long (own_pick p2 (3 : Int32) q6)), .second, .val (.ref b18), .unset] [(.long (0 : Int64)), (.long (own_pick p2 (2 : Int32) q5))])) _
          refine XS.lcmp X24.here hx rfl (hb hby at_131) rfl ?_
          by_cases hc132 : (own_pick p2 (2 : Int32) q5) = (0 : Int64)
          · have qj96_S0k3 : j96_S0k3 = (1 : Int32) := by rw [ej96_S0k3, if_pos hc106, if_pos hc119, if_pos hc132]
            rw [qj96_S0k3] at kt
            show Steps p.tables e below (T24.setTop (mkF m 132 #[.val (.int p1), .val (.int p2), .val (.long q3), .second, .val (.long q4), .second, .val (.long q5), .second, .val (.long q6), .second, .val (.int (3 : Int32)), .val (.long (own_pick p2 (0 : Int32) q3)), .second, .val (.long (own_pick p2 (1 : Int32) q4)), .second, .val (.long (own_pick p2 (2 : Int32) q5)), .second, .val (.long (own_pick p2 (3 : Int32) q6)), .second, .val (.ref b18), .unset] [(.int (lcmpW (own_pick p2 (2 : Int32) q5) (0 : Int64)))])) _
            refine XS.ifNo X24.here hx rfl (hb hby at_132) rfl ((if0 _ _).trans (teq ((lw_eq (own_pick p2 (2 : Int32) q5) (0 : Int64)).mpr hc132)).2) ?_
            show Steps p.tables e below (T24.setTop (mkF m 135 #[.val (.int p1), .val (.int p2), .val (.long q3), .second, .val (.long q4), .second, .val (.long q5), .second, .val (.long q6), .second, .val (.int (3 : Int32)), .val (.long (own_pick p2 (0 : Int32) q3)), .second, .val (.long (own_pick p2 (1 : Int32) q4)), .second, .val (.long (own_pick p2 (2 : Int32) q5)), .second, .val (.long (own_pick p2 (3 : Int32) q6)), .second, .val (.ref b18), .unset] [])) _
            refine XS.iload X24.here hx rfl (hb hby at_135) rfl ?_
            show Steps p.tables e below (T24.setTop (mkF m 137 #[.val (.int p1), .val (.int p2), .val (.long q3), .second, .val (.long q4), .second, .val (.long q5), .second, .val (.long q6), .second, .val (.int (3 : Int32)), .val (.long (own_pick p2 (0 : Int32) q3)), .second, .val (.long (own_pick p2 (1 : Int32) q4)), .second, .val (.long (own_pick p2 (2 : Int32) q5)), .second, .val (.long (own_pick p2 (3 : Int32) q6)), .second, .val (.ref b18), .unset] [(.int (3 : Int32))])) _
            refine XS.iconst X24.here hx rfl (hb hby at_137) ?_
            show Steps p.tables e below (T24.setTop (mkF m 138 #[.val (.int p1), .val (.int p2), .val (.long q3), .second, .val (.long q4), .second, .val (.long q5), .second, .val (.long q6), .second, .val (.int (3 : Int32)), .val (.long (own_pick p2 (0 : Int32) q3)), .second, .val (.long (own_pick p2 (1 : Int32) q4)), .second, .val (.long (own_pick p2 (2 : Int32) q5)), .second, .val (.long (own_pick p2 (3 : Int32) q6)), .second, .val (.ref b18), .unset] [(.int (4 : Int32)), (.int (3 : Int32))])) _
            refine XS.icmpYes X24.here hx rfl (pc0 := 138) (pc' := 148) rfl (hb hby at_138) rfl (tlt (by decide)).1 (by decide) (by decide) ?_
            show Steps p.tables e below (T24.setTop (mkF m 148 #[.val (.int p1), .val (.int p2), .val (.long q3), .second, .val (.long q4), .second, .val (.long q5), .second, .val (.long q6), .second, .val (.int (3 : Int32)), .val (.long (own_pick p2 (0 : Int32) q3)), .second, .val (.long (own_pick p2 (1 : Int32) q4)), .second, .val (.long (own_pick p2 (2 : Int32) q5)), .second, .val (.long (own_pick p2 (3 : Int32) q6)), .second, .val (.ref b18), .unset] [])) _
            refine XS.iconst X24.here hx rfl (hb hby at_148) ?_
            show Steps p.tables e below (T24.setTop (mkF m 149 #[.val (.int p1), .val (.int p2), .val (.long q3), .second, .val (.long q4), .second, .val (.long q5), .second, .val (.long q6), .second, .val (.int (3 : Int32)), .val (.long (own_pick p2 (0 : Int32) q3)), .second, .val (.long (own_pick p2 (1 : Int32) q4)), .second, .val (.long (own_pick p2 (2 : Int32) q5)), .second, .val (.long (own_pick p2 (3 : Int32) q6)), .second, .val (.ref b18), .unset] [(.int (1 : Int32))])) _
            refine XS.goto X24.here hx rfl (pc0 := 149) (pc' := 153) rfl (hb hby at_149) (by decide) (by decide) ?_
            exact kt
          · have qj96_S0k3 : j96_S0k3 = (0 : Int32) := by rw [ej96_S0k3, if_pos hc106, if_pos hc119, if_neg hc132]
            rw [qj96_S0k3] at kt
            show Steps p.tables e below (T24.setTop (mkF m 132 #[.val (.int p1), .val (.int p2), .val (.long q3), .second, .val (.long q4), .second, .val (.long q5), .second, .val (.long q6), .second, .val (.int (3 : Int32)), .val (.long (own_pick p2 (0 : Int32) q3)), .second, .val (.long (own_pick p2 (1 : Int32) q4)), .second, .val (.long (own_pick p2 (2 : Int32) q5)), .second, .val (.long (own_pick p2 (3 : Int32) q6)), .second, .val (.ref b18), .unset] [(.int (lcmpW (own_pick p2 (2 : Int32) q5) (0 : Int64)))])) _
            refine XS.ifYes X24.here hx rfl (pc0 := 132) (pc' := 152) rfl (hb hby at_132) rfl ((if0 _ _).trans (feq (fun q => hc132 ((lw_eq (own_pick p2 (2 : Int32) q5) (0 : Int64)).mp q))).2) (by decide) (by decide) ?_
            show Steps p.tables e below (T24.setTop (mkF m 152 #[.val (.int p1), .val (.int p2), .val (.long q3), .second, .val (.long q4), .second, .val (.long q5), .second, .val (.long q6), .second, .val (.int (3 : Int32)), .val (.long (own_pick p2 (0 : Int32) q3)), .second, .val (.long (own_pick p2 (1 : Int32) q4)), .second, .val (.long (own_pick p2 (2 : Int32) q5)), .second, .val (.long (own_pick p2 (3 : Int32) q6)), .second, .val (.ref b18), .unset] [])) _
            refine XS.iconst X24.here hx rfl (hb hby at_152) ?_
            exact kt
        · have qj96_S0k3 : j96_S0k3 = (0 : Int32) := by rw [ej96_S0k3, if_pos hc106, if_neg hc119]
          rw [qj96_S0k3] at kt
          show Steps p.tables e below (T24.setTop (mkF m 119 #[.val (.int p1), .val (.int p2), .val (.long q3), .second, .val (.long q4), .second, .val (.long q5), .second, .val (.long q6), .second, .val (.int (3 : Int32)), .val (.long (own_pick p2 (0 : Int32) q3)), .second, .val (.long (own_pick p2 (1 : Int32) q4)), .second, .val (.long (own_pick p2 (2 : Int32) q5)), .second, .val (.long (own_pick p2 (3 : Int32) q6)), .second, .val (.ref b18), .unset] [(.int (lcmpW (own_pick p2 (1 : Int32) q4) (0 : Int64)))])) _
          refine XS.ifYes X24.here hx rfl (pc0 := 119) (pc' := 152) rfl (hb hby at_119) rfl ((if0 _ _).trans (feq (fun q => hc119 ((lw_eq (own_pick p2 (1 : Int32) q4) (0 : Int64)).mp q))).2) (by decide) (by decide) ?_
          show Steps p.tables e below (T24.setTop (mkF m 152 #[.val (.int p1), .val (.int p2), .val (.long q3), .second, .val (.long q4), .second, .val (.long q5), .second, .val (.long q6), .second, .val (.int (3 : Int32)), .val (.long (own_pick p2 (0 : Int32) q3)), .second, .val (.long (own_pick p2 (1 : Int32) q4)), .second, .val (.long (own_pick p2 (2 : Int32) q5)), .second, .val (.long (own_pick p2 (3 : Int32) q6)), .second, .val (.ref b18), .unset] [])) _
          refine XS.iconst X24.here hx rfl (hb hby at_152) ?_
          exact kt
      · have qj96_S0k3 : j96_S0k3 = (0 : Int32) := by rw [ej96_S0k3, if_neg hc106]
        rw [qj96_S0k3] at kt
        show Steps p.tables e below (T24.setTop (mkF m 106 #[.val (.int p1), .val (.int p2), .val (.long q3), .second, .val (.long q4), .second, .val (.long q5), .second, .val (.long q6), .second, .val (.int (3 : Int32)), .val (.long (own_pick p2 (0 : Int32) q3)), .second, .val (.long (own_pick p2 (1 : Int32) q4)), .second, .val (.long (own_pick p2 (2 : Int32) q5)), .second, .val (.long (own_pick p2 (3 : Int32) q6)), .second, .val (.ref b18), .unset] [(.int (lcmpW (own_pick p2 (0 : Int32) q3) (0 : Int64)))])) _
        refine XS.ifYes X24.here hx rfl (pc0 := 106) (pc' := 152) rfl (hb hby at_106) rfl ((if0 _ _).trans (feq (fun q => hc106 ((lw_eq (own_pick p2 (0 : Int32) q3) (0 : Int64)).mp q))).2) (by decide) (by decide) ?_
        show Steps p.tables e below (T24.setTop (mkF m 152 #[.val (.int p1), .val (.int p2), .val (.long q3), .second, .val (.long q4), .second, .val (.long q5), .second, .val (.long q6), .second, .val (.int (3 : Int32)), .val (.long (own_pick p2 (0 : Int32) q3)), .second, .val (.long (own_pick p2 (1 : Int32) q4)), .second, .val (.long (own_pick p2 (2 : Int32) q5)), .second, .val (.long (own_pick p2 (3 : Int32) q6)), .second, .val (.ref b18), .unset] [])) _
        refine XS.iconst X24.here hx rfl (hb hby at_152) ?_
        exact kt
    obtain ⟨_, _, ⟨T25, L25, k25, n25⟩, -, X25, ⟨Lc25, hQ25, l25, y25, z25⟩, st25⟩ := Jvm.LawKit.callS X24 hx (y := (⟨"com/example/vestline/vestline/ProRata", "noWeight", "([J)Z"⟩ : MethodName)) hown (mvT hZ (hw _ (List.mem_of_getElem? (i := 7) rfl))) (mvT hZ (hw _ (List.mem_of_getElem? (i := 8) rfl))) (mvT hZ (hw _ (List.mem_of_getElem? (i := 9) rfl))) (mvT hZ (hw _ (List.mem_of_getElem? (i := 10) rfl))) (by decide) (backOf (W := 0) (rm2n3 l Z a0 hw [] b18 k18 (own_pick p2 (0 : Int32) q3) (own_pick p2 (1 : Int32) q4) (own_pick p2 (2 : Int32) q5) h24 n0 Z24 V24) hZ (hw _ (List.mem_of_getElem? (i := 10) rfl)) (hw _ (List.mem_of_getElem? (i := 9) rfl)) (by decide) (by decide)) (g := (mkF m 157 #[.val (.int p1), .val (.int p2), .val (.long q3), .second, .val (.long q4), .second, .val (.long q5), .second, .val (.long q6), .second, .val (.int (3 : Int32)), .val (.long (own_pick p2 (0 : Int32) q3)), .second, .val (.long (own_pick p2 (1 : Int32) q4)), .second, .val (.long (own_pick p2 (2 : Int32) q5)), .second, .val (.long (own_pick p2 (3 : Int32) q6)), .second, .val (.ref b18), .val (.int j96_S0k3)] [(.ref b18)])) rfl (by rw [hml]; rfl) (argsL := [(.ref b18)]) (rest := []) (lenOf pd0_1 rfl) rfl (by show 2 * 0 + _ ≤ _; exact Nat.le_of_eq rfl) (hb hby at_157) (fun _ _ => ⟨rfl, e24, (by decide : 1 + 0 ≤ _), (by decide : 3 + 0 ≤ _)⟩)
    dsimp only [Pt.U, Pt.locs, Pt.cells, Pt.slots] at X25 l25 y25 z25 st25 hQ25
    subst l25 y25 z25
    obtain ⟨rfl, N25q, e25⟩ := hQ25
    have N25 := Fr.app N24 N25q
    obtain ⟨fs, hr, hrun, hended, hW, hsame⟩ := X25.leave (v := some (.int (1 : Int32))) (fun h => by rw [Bd.returns] at h; cases h)
    refine ⟨_, _, c5 _ ?_, hrun, hended, _, _, rfl, ?_, ⟨_, rfl⟩, hW, hsame.mono (by decide) (by decide)⟩
    · show Steps p.tables e below (T4.setTop (mkF m 43 #[.val (.int p1), .val (.int p2), .val (.long q3), .second, .val (.long q4), .second, .val (.long q5), .second, .val (.long q6), .second, .val (.int (3 : Int32)), .val (.long (own_pick p2 (0 : Int32) q3)), .second, .val (.long (own_pick p2 (1 : Int32) q4)), .second, .val (.long (own_pick p2 (2 : Int32) q5)), .second, .val (.long (own_pick p2 (3 : Int32) q6)), .second, .unset, .unset] [])) _
      refine XS.iload X4.here hx rfl (hb hby at_43) rfl ?_
      show Steps p.tables e below (T4.setTop (mkF m 45 #[.val (.int p1), .val (.int p2), .val (.long q3), .second, .val (.long q4), .second, .val (.long q5), .second, .val (.long q6), .second, .val (.int (3 : Int32)), .val (.long (own_pick p2 (0 : Int32) q3)), .second, .val (.long (own_pick p2 (1 : Int32) q4)), .second, .val (.long (own_pick p2 (2 : Int32) q5)), .second, .val (.long (own_pick p2 (3 : Int32) q6)), .second, .unset, .unset] [(.int (3 : Int32))])) _
      refine st18 _ ?_
      show Steps p.tables e below (T18.setTop (mkF m 47 #[.val (.int p1), .val (.int p2), .val (.long q3), .second, .val (.long q4), .second, .val (.long q5), .second, .val (.long q6), .second, .val (.int (3 : Int32)), .val (.long (own_pick p2 (0 : Int32) q3)), .second, .val (.long (own_pick p2 (1 : Int32) q4)), .second, .val (.long (own_pick p2 (2 : Int32) q5)), .second, .val (.long (own_pick p2 (3 : Int32) q6)), .second, .unset, .unset] [(.ref b18)])) _
      refine XS.astore X18.here hx rfl (hb hby at_47) rfl rfl (l' := #[.val (.int p1), .val (.int p2), .val (.long q3), .second, .val (.long q4), .second, .val (.long q5), .second, .val (.long q6), .second, .val (.int (3 : Int32)), .val (.long (own_pick p2 (0 : Int32) q3)), .second, .val (.long (own_pick p2 (1 : Int32) q4)), .second, .val (.long (own_pick p2 (2 : Int32) q5)), .second, .val (.long (own_pick p2 (3 : Int32) q6)), .second, .val (.ref b18), .unset]) rfl ?_
      show Steps p.tables e below (T18.setTop (mkF m 49 #[.val (.int p1), .val (.int p2), .val (.long q3), .second, .val (.long q4), .second, .val (.long q5), .second, .val (.long q6), .second, .val (.int (3 : Int32)), .val (.long (own_pick p2 (0 : Int32) q3)), .second, .val (.long (own_pick p2 (1 : Int32) q4)), .second, .val (.long (own_pick p2 (2 : Int32) q5)), .second, .val (.long (own_pick p2 (3 : Int32) q6)), .second, .val (.ref b18), .unset] [])) _
      refine XS.iload X18.here hx rfl (hb hby at_49) rfl ?_
      show Steps p.tables e below (T18.setTop (mkF m 51 #[.val (.int p1), .val (.int p2), .val (.long q3), .second, .val (.long q4), .second, .val (.long q5), .second, .val (.long q6), .second, .val (.int (3 : Int32)), .val (.long (own_pick p2 (0 : Int32) q3)), .second, .val (.long (own_pick p2 (1 : Int32) q4)), .second, .val (.long (own_pick p2 (2 : Int32) q5)), .second, .val (.long (own_pick p2 (3 : Int32) q6)), .second, .val (.ref b18), .unset] [(.int (3 : Int32))])) _
      refine XS.ifNo X18.here hx rfl (hb hby at_51) rfl ((if0 _ _).trans (tlt (by decide)).2.2.2) ?_
      show Steps p.tables e below (T18.setTop (mkF m 54 #[.val (.int p1), .val (.int p2), .val (.long q3), .second, .val (.long q4), .second, .val (.long q5), .second, .val (.long q6), .second, .val (.int (3 : Int32)), .val (.long (own_pick p2 (0 : Int32) q3)), .second, .val (.long (own_pick p2 (1 : Int32) q4)), .second, .val (.long (own_pick p2 (2 : Int32) q5)), .second, .val (.long (own_pick p2 (3 : Int32) q6)), .second, .val (.ref b18), .unset] [])) _
      refine XS.aload X18.here hx rfl (hb hby at_54) rfl rfl ?_
      show Steps p.tables e below (T18.setTop (mkF m 56 #[.val (.int p1), .val (.int p2), .val (.long q3), .second, .val (.long q4), .second, .val (.long q5), .second, .val (.long q6), .second, .val (.int (3 : Int32)), .val (.long (own_pick p2 (0 : Int32) q3)), .second, .val (.long (own_pick p2 (1 : Int32) q4)), .second, .val (.long (own_pick p2 (2 : Int32) q5)), .second, .val (.long (own_pick p2 (3 : Int32) q6)), .second, .val (.ref b18), .unset] [(.ref b18)])) _
      refine XS.iconst X18.here hx rfl (hb hby at_56) ?_
      show Steps p.tables e below (T18.setTop (mkF m 57 #[.val (.int p1), .val (.int p2), .val (.long q3), .second, .val (.long q4), .second, .val (.long q5), .second, .val (.long q6), .second, .val (.int (3 : Int32)), .val (.long (own_pick p2 (0 : Int32) q3)), .second, .val (.long (own_pick p2 (1 : Int32) q4)), .second, .val (.long (own_pick p2 (2 : Int32) q5)), .second, .val (.long (own_pick p2 (3 : Int32) q6)), .second, .val (.ref b18), .unset] [(.int (0 : Int32)), (.ref b18)])) _
      refine XS.lload X18.here hx rfl (hb hby at_57) rfl ?_
      show Steps p.tables e below (T18.setTop (mkF m 59 #[.val (.int p1), .val (.int p2), .val (.long q3), .second, .val (.long q4), .second, .val (.long q5), .second, .val (.long q6), .second, .val (.int (3 : Int32)), .val (.long (own_pick p2 (0 : Int32) q3)), .second, .val (.long (own_pick p2 (1 : Int32) q4)), .second, .val (.long (own_pick p2 (2 : Int32) q5)), .second, .val (.long (own_pick p2 (3 : Int32) q6)), .second, .val (.ref b18), .unset] [(.long (own_pick p2 (0 : Int32) q3)), (.int (0 : Int32)), (.ref b18)])) _
      refine st20 _ ?_
      show Steps p.tables e below (T20.setTop (mkF m 60 #[.val (.int p1), .val (.int p2), .val (.long q3), .second, .val (.long q4), .second, .val (.long q5), .second, .val (.long q6), .second, .val (.int (3 : Int32)), .val (.long (own_pick p2 (0 : Int32) q3)), .second, .val (.long (own_pick p2 (1 : Int32) q4)), .second, .val (.long (own_pick p2 (2 : Int32) q5)), .second, .val (.long (own_pick p2 (3 : Int32) q6)), .second, .val (.ref b18), .unset] [])) _
      refine XS.iload X20.here hx rfl (hb hby at_60) rfl ?_
      show Steps p.tables e below (T20.setTop (mkF m 62 #[.val (.int p1), .val (.int p2), .val (.long q3), .second, .val (.long q4), .second, .val (.long q5), .second, .val (.long q6), .second, .val (.int (3 : Int32)), .val (.long (own_pick p2 (0 : Int32) q3)), .second, .val (.long (own_pick p2 (1 : Int32) q4)), .second, .val (.long (own_pick p2 (2 : Int32) q5)), .second, .val (.long (own_pick p2 (3 : Int32) q6)), .second, .val (.ref b18), .unset] [(.int (3 : Int32))])) _
      refine XS.iconst X20.here hx rfl (hb hby at_62) ?_
      show Steps p.tables e below (T20.setTop (mkF m 63 #[.val (.int p1), .val (.int p2), .val (.long q3), .second, .val (.long q4), .second, .val (.long q5), .second, .val (.long q6), .second, .val (.int (3 : Int32)), .val (.long (own_pick p2 (0 : Int32) q3)), .second, .val (.long (own_pick p2 (1 : Int32) q4)), .second, .val (.long (own_pick p2 (2 : Int32) q5)), .second, .val (.long (own_pick p2 (3 : Int32) q6)), .second, .val (.ref b18), .unset] [(.int (1 : Int32)), (.int (3 : Int32))])) _
      refine XS.icmpNo X20.here hx rfl (hb hby at_63) rfl (tlt (by decide)).2.2.2 ?_
      show Steps p.tables e below (T20.setTop (mkF m 66 #[.val (.int p1), .val (.int p2), .val (.long q3), .second, .val (.long q4), .second, .val (.long q5), .second, .val (.long q6), .second, .val (.int (3 : Int32)), .val (.long (own_pick p2 (0 : Int32) q3)), .second, .val (.long (own_pick p2 (1 : Int32) q4)), .second, .val (.long (own_pick p2 (2 : Int32) q5)), .second, .val (.long (own_pick p2 (3 : Int32) q6)), .second, .val (.ref b18), .unset] [])) _
      refine XS.aload X20.here hx rfl (hb hby at_66) rfl rfl ?_
      show Steps p.tables e below (T20.setTop (mkF m 68 #[.val (.int p1), .val (.int p2), .val (.long q3), .second, .val (.long q4), .second, .val (.long q5), .second, .val (.long q6), .second, .val (.int (3 : Int32)), .val (.long (own_pick p2 (0 : Int32) q3)), .second, .val (.long (own_pick p2 (1 : Int32) q4)), .second, .val (.long (own_pick p2 (2 : Int32) q5)), .second, .val (.long (own_pick p2 (3 : Int32) q6)), .second, .val (.ref b18), .unset] [(.ref b18)])) _
      refine XS.iconst X20.here hx rfl (hb hby at_68) ?_
      show Steps p.tables e below (T20.setTop (mkF m 69 #[.val (.int p1), .val (.int p2), .val (.long q3), .second, .val (.long q4), .second, .val (.long q5), .second, .val (.long q6), .second, .val (.int (3 : Int32)), .val (.long (own_pick p2 (0 : Int32) q3)), .second, .val (.long (own_pick p2 (1 : Int32) q4)), .second, .val (.long (own_pick p2 (2 : Int32) q5)), .second, .val (.long (own_pick p2 (3 : Int32) q6)), .second, .val (.ref b18), .unset] [(.int (1 : Int32)), (.ref b18)])) _
      refine XS.lload X20.here hx rfl (hb hby at_69) rfl ?_
      show Steps p.tables e below (T20.setTop (mkF m 71 #[.val (.int p1), .val (.int p2), .val (.long q3), .second, .val (.long q4), .second, .val (.long q5), .second, .val (.long q6), .second, .val (.int (3 : Int32)), .val (.long (own_pick p2 (0 : Int32) q3)), .second, .val (.long (own_pick p2 (1 : Int32) q4)), .second, .val (.long (own_pick p2 (2 : Int32) q5)), .second, .val (.long (own_pick p2 (3 : Int32) q6)), .second, .val (.ref b18), .unset] [(.long (own_pick p2 (1 : Int32) q4)), (.int (1 : Int32)), (.ref b18)])) _
      refine st22 _ ?_
      show Steps p.tables e below (T22.setTop (mkF m 72 #[.val (.int p1), .val (.int p2), .val (.long q3), .second, .val (.long q4), .second, .val (.long q5), .second, .val (.long q6), .second, .val (.int (3 : Int32)), .val (.long (own_pick p2 (0 : Int32) q3)), .second, .val (.long (own_pick p2 (1 : Int32) q4)), .second, .val (.long (own_pick p2 (2 : Int32) q5)), .second, .val (.long (own_pick p2 (3 : Int32) q6)), .second, .val (.ref b18), .unset] [])) _
      refine XS.iload X22.here hx rfl (hb hby at_72) rfl ?_
      show Steps p.tables e below (T22.setTop (mkF m 74 #[.val (.int p1), .val (.int p2), .val (.long q3), .second, .val (.long q4), .second, .val (.long q5), .second, .val (.long q6), .second, .val (.int (3 : Int32)), .val (.long (own_pick p2 (0 : Int32) q3)), .second, .val (.long (own_pick p2 (1 : Int32) q4)), .second, .val (.long (own_pick p2 (2 : Int32) q5)), .second, .val (.long (own_pick p2 (3 : Int32) q6)), .second, .val (.ref b18), .unset] [(.int (3 : Int32))])) _
      refine XS.iconst X22.here hx rfl (hb hby at_74) ?_
      show Steps p.tables e below (T22.setTop (mkF m 75 #[.val (.int p1), .val (.int p2), .val (.long q3), .second, .val (.long q4), .second, .val (.long q5), .second, .val (.long q6), .second, .val (.int (3 : Int32)), .val (.long (own_pick p2 (0 : Int32) q3)), .second, .val (.long (own_pick p2 (1 : Int32) q4)), .second, .val (.long (own_pick p2 (2 : Int32) q5)), .second, .val (.long (own_pick p2 (3 : Int32) q6)), .second, .val (.ref b18), .unset] [(.int (2 : Int32)), (.int (3 : Int32))])) _
      refine XS.icmpNo X22.here hx rfl (hb hby at_75) rfl (tlt (by decide)).2.2.2 ?_
      show Steps p.tables e below (T22.setTop (mkF m 78 #[.val (.int p1), .val (.int p2), .val (.long q3), .second, .val (.long q4), .second, .val (.long q5), .second, .val (.long q6), .second, .val (.int (3 : Int32)), .val (.long (own_pick p2 (0 : Int32) q3)), .second, .val (.long (own_pick p2 (1 : Int32) q4)), .second, .val (.long (own_pick p2 (2 : Int32) q5)), .second, .val (.long (own_pick p2 (3 : Int32) q6)), .second, .val (.ref b18), .unset] [])) _
      refine XS.aload X22.here hx rfl (hb hby at_78) rfl rfl ?_
      show Steps p.tables e below (T22.setTop (mkF m 80 #[.val (.int p1), .val (.int p2), .val (.long q3), .second, .val (.long q4), .second, .val (.long q5), .second, .val (.long q6), .second, .val (.int (3 : Int32)), .val (.long (own_pick p2 (0 : Int32) q3)), .second, .val (.long (own_pick p2 (1 : Int32) q4)), .second, .val (.long (own_pick p2 (2 : Int32) q5)), .second, .val (.long (own_pick p2 (3 : Int32) q6)), .second, .val (.ref b18), .unset] [(.ref b18)])) _
      refine XS.iconst X22.here hx rfl (hb hby at_80) ?_
      show Steps p.tables e below (T22.setTop (mkF m 81 #[.val (.int p1), .val (.int p2), .val (.long q3), .second, .val (.long q4), .second, .val (.long q5), .second, .val (.long q6), .second, .val (.int (3 : Int32)), .val (.long (own_pick p2 (0 : Int32) q3)), .second, .val (.long (own_pick p2 (1 : Int32) q4)), .second, .val (.long (own_pick p2 (2 : Int32) q5)), .second, .val (.long (own_pick p2 (3 : Int32) q6)), .second, .val (.ref b18), .unset] [(.int (2 : Int32)), (.ref b18)])) _
      refine XS.lload X22.here hx rfl (hb hby at_81) rfl ?_
      show Steps p.tables e below (T22.setTop (mkF m 83 #[.val (.int p1), .val (.int p2), .val (.long q3), .second, .val (.long q4), .second, .val (.long q5), .second, .val (.long q6), .second, .val (.int (3 : Int32)), .val (.long (own_pick p2 (0 : Int32) q3)), .second, .val (.long (own_pick p2 (1 : Int32) q4)), .second, .val (.long (own_pick p2 (2 : Int32) q5)), .second, .val (.long (own_pick p2 (3 : Int32) q6)), .second, .val (.ref b18), .unset] [(.long (own_pick p2 (2 : Int32) q5)), (.int (2 : Int32)), (.ref b18)])) _
      refine st24 _ ?_
      show Steps p.tables e below (T24.setTop (mkF m 84 #[.val (.int p1), .val (.int p2), .val (.long q3), .second, .val (.long q4), .second, .val (.long q5), .second, .val (.long q6), .second, .val (.int (3 : Int32)), .val (.long (own_pick p2 (0 : Int32) q3)), .second, .val (.long (own_pick p2 (1 : Int32) q4)), .second, .val (.long (own_pick p2 (2 : Int32) q5)), .second, .val (.long (own_pick p2 (3 : Int32) q6)), .second, .val (.ref b18), .unset] [])) _
      refine XS.iload X24.here hx rfl (hb hby at_84) rfl ?_
      show Steps p.tables e below (T24.setTop (mkF m 86 #[.val (.int p1), .val (.int p2), .val (.long q3), .second, .val (.long q4), .second, .val (.long q5), .second, .val (.long q6), .second, .val (.int (3 : Int32)), .val (.long (own_pick p2 (0 : Int32) q3)), .second, .val (.long (own_pick p2 (1 : Int32) q4)), .second, .val (.long (own_pick p2 (2 : Int32) q5)), .second, .val (.long (own_pick p2 (3 : Int32) q6)), .second, .val (.ref b18), .unset] [(.int (3 : Int32))])) _
      refine XS.iconst X24.here hx rfl (hb hby at_86) ?_
      show Steps p.tables e below (T24.setTop (mkF m 87 #[.val (.int p1), .val (.int p2), .val (.long q3), .second, .val (.long q4), .second, .val (.long q5), .second, .val (.long q6), .second, .val (.int (3 : Int32)), .val (.long (own_pick p2 (0 : Int32) q3)), .second, .val (.long (own_pick p2 (1 : Int32) q4)), .second, .val (.long (own_pick p2 (2 : Int32) q5)), .second, .val (.long (own_pick p2 (3 : Int32) q6)), .second, .val (.ref b18), .unset] [(.int (3 : Int32)), (.int (3 : Int32))])) _
      refine XS.icmpYes X24.here hx rfl (pc0 := 87) (pc' := 96) rfl (hb hby at_87) rfl (flt (by decide)).2.2.2 (by decide) (by decide) ?_
      show Steps p.tables e below (T24.setTop (mkF m 96 #[.val (.int p1), .val (.int p2), .val (.long q3), .second, .val (.long q4), .second, .val (.long q5), .second, .val (.long q6), .second, .val (.int (3 : Int32)), .val (.long (own_pick p2 (0 : Int32) q3)), .second, .val (.long (own_pick p2 (1 : Int32) q4)), .second, .val (.long (own_pick p2 (2 : Int32) q5)), .second, .val (.long (own_pick p2 (3 : Int32) q6)), .second, .val (.ref b18), .unset] [])) _
      refine sg96k3 _ ?_
      show Steps p.tables e below (T24.setTop (mkF m 153 #[.val (.int p1), .val (.int p2), .val (.long q3), .second, .val (.long q4), .second, .val (.long q5), .second, .val (.long q6), .second, .val (.int (3 : Int32)), .val (.long (own_pick p2 (0 : Int32) q3)), .second, .val (.long (own_pick p2 (1 : Int32) q4)), .second, .val (.long (own_pick p2 (2 : Int32) q5)), .second, .val (.long (own_pick p2 (3 : Int32) q6)), .second, .val (.ref b18), .unset] [(.int j96_S0k3)])) _
      refine XS.istore X24.here hx rfl (hb hby at_153) rfl (l' := #[.val (.int p1), .val (.int p2), .val (.long q3), .second, .val (.long q4), .second, .val (.long q5), .second, .val (.long q6), .second, .val (.int (3 : Int32)), .val (.long (own_pick p2 (0 : Int32) q3)), .second, .val (.long (own_pick p2 (1 : Int32) q4)), .second, .val (.long (own_pick p2 (2 : Int32) q5)), .second, .val (.long (own_pick p2 (3 : Int32) q6)), .second, .val (.ref b18), .val (.int j96_S0k3)]) rfl ?_
      show Steps p.tables e below (T24.setTop (mkF m 155 #[.val (.int p1), .val (.int p2), .val (.long q3), .second, .val (.long q4), .second, .val (.long q5), .second, .val (.long q6), .second, .val (.int (3 : Int32)), .val (.long (own_pick p2 (0 : Int32) q3)), .second, .val (.long (own_pick p2 (1 : Int32) q4)), .second, .val (.long (own_pick p2 (2 : Int32) q5)), .second, .val (.long (own_pick p2 (3 : Int32) q6)), .second, .val (.ref b18), .val (.int j96_S0k3)] [])) _
      refine XS.aload X24.here hx rfl (hb hby at_155) rfl rfl ?_
      show Steps p.tables e below (T24.setTop (mkF m 157 #[.val (.int p1), .val (.int p2), .val (.long q3), .second, .val (.long q4), .second, .val (.long q5), .second, .val (.long q6), .second, .val (.int (3 : Int32)), .val (.long (own_pick p2 (0 : Int32) q3)), .second, .val (.long (own_pick p2 (1 : Int32) q4)), .second, .val (.long (own_pick p2 (2 : Int32) q5)), .second, .val (.long (own_pick p2 (3 : Int32) q6)), .second, .val (.ref b18), .val (.int j96_S0k3)] [(.ref b18)])) _
      refine st25 _ ?_
      show Steps p.tables e below (T25.setTop (mkF m 160 #[.val (.int p1), .val (.int p2), .val (.long q3), .second, .val (.long q4), .second, .val (.long q5), .second, .val (.long q6), .second, .val (.int (3 : Int32)), .val (.long (own_pick p2 (0 : Int32) q3)), .second, .val (.long (own_pick p2 (1 : Int32) q4)), .second, .val (.long (own_pick p2 (2 : Int32) q5)), .second, .val (.long (own_pick p2 (3 : Int32) q6)), .second, .val (.ref b18), .val (.int j96_S0k3)] [(.int (own_nw3 (own_pick p2 (0 : Int32) q3) (own_pick p2 (1 : Int32) q4) (own_pick p2 (2 : Int32) q5)))])) _
      refine XS.iload X25.here hx rfl (hb hby at_160) rfl ?_
      show Steps p.tables e below (T25.setTop (mkF m 162 #[.val (.int p1), .val (.int p2), .val (.long q3), .second, .val (.long q4), .second, .val (.long q5), .second, .val (.long q6), .second, .val (.int (3 : Int32)), .val (.long (own_pick p2 (0 : Int32) q3)), .second, .val (.long (own_pick p2 (1 : Int32) q4)), .second, .val (.long (own_pick p2 (2 : Int32) q5)), .second, .val (.long (own_pick p2 (3 : Int32) q6)), .second, .val (.ref b18), .val (.int j96_S0k3)] [(.int j96_S0k3), (.int (own_nw3 (own_pick p2 (0 : Int32) q3) (own_pick p2 (1 : Int32) q4) (own_pick p2 (2 : Int32) q5)))])) _
      refine XS.icmpNo X25.here hx rfl (hb hby at_162) rfl (teq (by rw [ej96_S0k3]; rfl)).2 ?_
      show Steps p.tables e below (T25.setTop (mkF m 165 #[.val (.int p1), .val (.int p2), .val (.long q3), .second, .val (.long q4), .second, .val (.long q5), .second, .val (.long q6), .second, .val (.int (3 : Int32)), .val (.long (own_pick p2 (0 : Int32) q3)), .second, .val (.long (own_pick p2 (1 : Int32) q4)), .second, .val (.long (own_pick p2 (2 : Int32) q5)), .second, .val (.long (own_pick p2 (3 : Int32) q6)), .second, .val (.ref b18), .val (.int j96_S0k3)] [])) _
      refine XS.iconst X25.here hx rfl (hb hby at_165) ?_
      show Steps p.tables e below (T25.setTop (mkF m 166 #[.val (.int p1), .val (.int p2), .val (.long q3), .second, .val (.long q4), .second, .val (.long q5), .second, .val (.long q6), .second, .val (.int (3 : Int32)), .val (.long (own_pick p2 (0 : Int32) q3)), .second, .val (.long (own_pick p2 (1 : Int32) q4)), .second, .val (.long (own_pick p2 (2 : Int32) q5)), .second, .val (.long (own_pick p2 (3 : Int32) q6)), .second, .val (.ref b18), .val (.int j96_S0k3)] [(.int (1 : Int32))])) _
      refine XS.goto X25.here hx rfl (pc0 := 166) (pc' := 170) rfl (hb hby at_166) (by decide) (by decide) ?_
      show Steps p.tables e below (T25.setTop (mkF m 170 #[.val (.int p1), .val (.int p2), .val (.long q3), .second, .val (.long q4), .second, .val (.long q5), .second, .val (.long q6), .second, .val (.int (3 : Int32)), .val (.long (own_pick p2 (0 : Int32) q3)), .second, .val (.long (own_pick p2 (1 : Int32) q4)), .second, .val (.long (own_pick p2 (2 : Int32) q5)), .second, .val (.long (own_pick p2 (3 : Int32) q6)), .second, .val (.ref b18), .val (.int j96_S0k3)] [(.int (1 : Int32))])) _
      exact retN X25 hx (t := .boolean) Bd.returns (by simp) (hb hby at_170) hr
    · show Q0 Z p1 p2 q3 q4 q5 q6 h0 n0 _ T25.heap _
      rw [e25]
      exact ⟨rfl, N25⟩
  · rw [hk] at c5
    obtain ⟨T26, h26, k26, X26, e26, E26, A26, st26⟩ := newP X4 hx hZ (hw _ (List.mem_of_getElem? (i := 6) rfl)) e4 (g := (mkF m 45 #[.val (.int p1), .val (.int p2), .val (.long q3), .second, .val (.long q4), .second, .val (.long q5), .second, .val (.long q6), .second, .val (.int (4 : Int32)), .val (.long (own_pick p2 (0 : Int32) q3)), .second, .val (.long (own_pick p2 (1 : Int32) q4)), .second, .val (.long (own_pick p2 (2 : Int32) q5)), .second, .val (.long (own_pick p2 (3 : Int32) q6)), .second, .unset, .unset] [(.int (4 : Int32))])) rfl (hb hby at_45) rfl (by decide) (cap := 4) (by decide) (by decide) (by decide) (by decide)
    obtain ⟨b26, g26⟩ : ∃ z, z = h0.size := ⟨_, rfl⟩
    rw [← g26] at A26 st26
    have g_b26 : n0 ≤ b26 := Nat.le_trans Z0 (Nat.le_of_eq g26.symm)
    have Z26 : n0 ≤ h26.size := Nat.le_trans Z0 E26.1
    have V26 : Arv Z h26 b26 k26 .long (4 : Int32) [(.long (0 : Int64)), (.long (0 : Int64)), (.long (0 : Int64)), (.long (0 : Int64))] (.long (0 : Int64)) := (Arv.new A26 (by decide)).pad (pad_rep [] (.long (0 : Int64)) 4)
    have cp59_27 := V26
    obtain ⟨cl59_27, Ar59_27, qa59_27, Sa59_27, Na59_27, Ha59_27, Ga59_27⟩ := cp59_27
    have hin59_27 : ¬ ((0 : Int32) < 0 ∨ cl59_27.slots.size ≤ ((0 : Int32)).toNatClampNeg) := inb_of Sa59_27 ⟨by decide, by decide⟩
    obtain ⟨T28, h28, X28, e28, W28, st28⟩ := stJ X26 hx hZ e26 Ar59_27 (j := (0 : Int32)) hin59_27 (g := (mkF m 59 #[.val (.int p1), .val (.int p2), .val (.long q3), .second, .val (.long q4), .second, .val (.long q5), .second, .val (.long q6), .second, .val (.int (4 : Int32)), .val (.long (own_pick p2 (0 : Int32) q3)), .second, .val (.long (own_pick p2 (1 : Int32) q4)), .second, .val (.long (own_pick p2 (2 : Int32) q5)), .second, .val (.long (own_pick p2 (3 : Int32) q6)), .second, .val (.ref b26), .unset] [(.long (own_pick p2 (0 : Int32) q3)), (.int (0 : Int32)), (.ref b26)])) rfl rfl (hb hby at_59)
    have V28 : Arv Z h28 b26 k26 .long (4 : Int32) [(.long (own_pick p2 (0 : Int32) q3)), (.long (0 : Int64)), (.long (0 : Int64)), (.long (0 : Int64))] (.long (0 : Int64)) := Arv.set Ar59_27 qa59_27 Sa59_27 Na59_27 Ha59_27 Ga59_27 rfl W28 0 rfl (Nat.le_of_ble_eq_true rfl)
    have N28 := Fr.snoc X28 N4 g_b26
    have Z28 : n0 ≤ h28.size := Nat.le_trans Z26 (Keep.of_wr W28).1
    have cp71_29 := V28
    obtain ⟨cl71_29, Ar71_29, qa71_29, Sa71_29, Na71_29, Ha71_29, Ga71_29⟩ := cp71_29
    have hin71_29 : ¬ ((1 : Int32) < 0 ∨ cl71_29.slots.size ≤ ((1 : Int32)).toNatClampNeg) := inb_of Sa71_29 ⟨by decide, by decide⟩
    obtain ⟨T30, h30, X30, e30, W30, st30⟩ := stJ X28 hx hZ e28 Ar71_29 (j := (1 : Int32)) hin71_29 (g := (mkF m 71 #[.val (.int p1), .val (.int p2), .val (.long q3), .second, .val (.long q4), .second, .val (.long q5), .second, .val (.long q6), .second, .val (.int (4 : Int32)), .val (.long (own_pick p2 (0 : Int32) q3)), .second, .val (.long (own_pick p2 (1 : Int32) q4)), .second, .val (.long (own_pick p2 (2 : Int32) q5)), .second, .val (.long (own_pick p2 (3 : Int32) q6)), .second, .val (.ref b26), .unset] [(.long (own_pick p2 (1 : Int32) q4)), (.int (1 : Int32)), (.ref b26)])) rfl rfl (hb hby at_71)
    have V30 : Arv Z h30 b26 k26 .long (4 : Int32) [(.long (own_pick p2 (0 : Int32) q3)), (.long (own_pick p2 (1 : Int32) q4)), (.long (0 : Int64)), (.long (0 : Int64))] (.long (0 : Int64)) := Arv.set Ar71_29 qa71_29 Sa71_29 Na71_29 Ha71_29 Ga71_29 rfl W30 1 rfl (Nat.le_of_ble_eq_true rfl)
    have N30 := Fr.snoc X30 N28 g_b26
    have Z30 : n0 ≤ h30.size := Nat.le_trans Z28 (Keep.of_wr W30).1
    have cp83_31 := V30
    obtain ⟨cl83_31, Ar83_31, qa83_31, Sa83_31, Na83_31, Ha83_31, Ga83_31⟩ := cp83_31
    have hin83_31 : ¬ ((2 : Int32) < 0 ∨ cl83_31.slots.size ≤ ((2 : Int32)).toNatClampNeg) := inb_of Sa83_31 ⟨by decide, by decide⟩
    obtain ⟨T32, h32, X32, e32, W32, st32⟩ := stJ X30 hx hZ e30 Ar83_31 (j := (2 : Int32)) hin83_31 (g := (mkF m 83 #[.val (.int p1), .val (.int p2), .val (.long q3), .second, .val (.long q4), .second, .val (.long q5), .second, .val (.long q6), .second, .val (.int (4 : Int32)), .val (.long (own_pick p2 (0 : Int32) q3)), .second, .val (.long (own_pick p2 (1 : Int32) q4)), .second, .val (.long (own_pick p2 (2 : Int32) q5)), .second, .val (.long (own_pick p2 (3 : Int32) q6)), .second, .val (.ref b26), .unset] [(.long (own_pick p2 (2 : Int32) q5)), (.int (2 : Int32)), (.ref b26)])) rfl rfl (hb hby at_83)
    have V32 : Arv Z h32 b26 k26 .long (4 : Int32) [(.long (own_pick p2 (0 : Int32) q3)), (.long (own_pick p2 (1 : Int32) q4)), (.long (own_pick p2 (2 : Int32) q5)), (.long (0 : Int64))] (.long (0 : Int64)) := Arv.set Ar83_31 qa83_31 Sa83_31 Na83_31 Ha83_31 Ga83_31 rfl W32 2 rfl (Nat.le_of_ble_eq_true rfl)
    have N32 := Fr.snoc X32 N30 g_b26
    have Z32 : n0 ≤ h32.size := Nat.le_trans Z30 (Keep.of_wr W32).1
    have cp95_33 := V32
    obtain ⟨cl95_33, Ar95_33, qa95_33, Sa95_33, Na95_33, Ha95_33, Ga95_33⟩ := cp95_33
    have hin95_33 : ¬ ((3 : Int32) < 0 ∨ cl95_33.slots.size ≤ ((3 : Int32)).toNatClampNeg) := inb_of Sa95_33 ⟨by decide, by decide⟩
    obtain ⟨T34, h34, X34, e34, W34, st34⟩ := stJ X32 hx hZ e32 Ar95_33 (j := (3 : Int32)) hin95_33 (g := (mkF m 95 #[.val (.int p1), .val (.int p2), .val (.long q3), .second, .val (.long q4), .second, .val (.long q5), .second, .val (.long q6), .second, .val (.int (4 : Int32)), .val (.long (own_pick p2 (0 : Int32) q3)), .second, .val (.long (own_pick p2 (1 : Int32) q4)), .second, .val (.long (own_pick p2 (2 : Int32) q5)), .second, .val (.long (own_pick p2 (3 : Int32) q6)), .second, .val (.ref b26), .unset] [(.long (own_pick p2 (3 : Int32) q6)), (.int (3 : Int32)), (.ref b26)])) rfl rfl (hb hby at_95)
    have V34 : Arv Z h34 b26 k26 .long (4 : Int32) [(.long (own_pick p2 (0 : Int32) q3)), (.long (own_pick p2 (1 : Int32) q4)), (.long (own_pick p2 (2 : Int32) q5)), (.long (own_pick p2 (3 : Int32) q6))] (.long (0 : Int64)) := Arv.set Ar95_33 qa95_33 Sa95_33 Na95_33 Ha95_33 Ga95_33 rfl W34 3 rfl (Nat.le_of_ble_eq_true rfl)
    have N34 := Fr.snoc X34 N32 g_b26
    have Z34 : n0 ≤ h34.size := Nat.le_trans Z32 (Keep.of_wr W34).1
    obtain ⟨j96_S0k4, ej96_S0k4⟩ : ∃ z : Int32, z = (if (own_pick p2 (0 : Int32) q3) = (0 : Int64) then (if (own_pick p2 (1 : Int32) q4) = (0 : Int64) then (if (own_pick p2 (2 : Int32) q5) = (0 : Int64) then (if (own_pick p2 (3 : Int32) q6) = (0 : Int64) then (1 : Int32) else (0 : Int32)) else (0 : Int32)) else (0 : Int32)) else (0 : Int32)) := ⟨_, rfl⟩
    have sg96k4 : ∀ t, Steps p.tables e below (T34.setTop (mkF m 153 #[.val (.int p1), .val (.int p2), .val (.long q3), .second, .val (.long q4), .second, .val (.long q5), .second, .val (.long q6), .second, .val (.int (4 : Int32)), .val (.long (own_pick p2 (0 : Int32) q3)), .second, .val (.long (own_pick p2 (1 : Int32) q4)), .second, .val (.long (own_pick p2 (2 : Int32) q5)), .second, .val (.long (own_pick p2 (3 : Int32) q6)), .second, .val (.ref b26), .unset] [(.int j96_S0k4)])) t → Steps p.tables e below (T34.setTop (mkF m 96 #[.val (.int p1), .val (.int p2), .val (.long q3), .second, .val (.long q4), .second, .val (.long q5), .second, .val (.long q6), .second, .val (.int (4 : Int32)), .val (.long (own_pick p2 (0 : Int32) q3)), .second, .val (.long (own_pick p2 (1 : Int32) q4)), .second, .val (.long (own_pick p2 (2 : Int32) q5)), .second, .val (.long (own_pick p2 (3 : Int32) q6)), .second, .val (.ref b26), .unset] [])) t := fun t kt => by
      show Steps p.tables e below (T34.setTop (mkF m 96 #[.val (.int p1), .val (.int p2), .val (.long q3), .second, .val (.long q4), .second, .val (.long q5), .second, .val (.long q6), .second, .val (.int (4 : Int32)), .val (.long (own_pick p2 (0 : Int32) q3)), .second, .val (.long (own_pick p2 (1 : Int32) q4)), .second, .val (.long (own_pick p2 (2 : Int32) q5)), .second, .val (.long (own_pick p2 (3 : Int32) q6)), .second, .val (.ref b26), .unset] [])) _
      refine XS.iload X34.here hx rfl (hb hby at_96) rfl ?_
      show Steps p.tables e below (T34.setTop (mkF m 98 #[.val (.int p1), .val (.int p2), .val (.long q3), .second, .val (.long q4), .second, .val (.long q5), .second, .val (.long q6), .second, .val (.int (4 : Int32)), .val (.long (own_pick p2 (0 : Int32) q3)), .second, .val (.long (own_pick p2 (1 : Int32) q4)), .second, .val (.long (own_pick p2 (2 : Int32) q5)), .second, .val (.long (own_pick p2 (3 : Int32) q6)), .second, .val (.ref b26), .unset] [(.int (4 : Int32))])) _
      refine XS.iconst X34.here hx rfl (hb hby at_98) ?_
      show Steps p.tables e below (T34.setTop (mkF m 99 #[.val (.int p1), .val (.int p2), .val (.long q3), .second, .val (.long q4), .second, .val (.long q5), .second, .val (.long q6), .second, .val (.int (4 : Int32)), .val (.long (own_pick p2 (0 : Int32) q3)), .second, .val (.long (own_pick p2 (1 : Int32) q4)), .second, .val (.long (own_pick p2 (2 : Int32) q5)), .second, .val (.long (own_pick p2 (3 : Int32) q6)), .second, .val (.ref b26), .unset] [(.int (1 : Int32)), (.int (4 : Int32))])) _
      refine XS.icmpNo X34.here hx rfl (hb hby at_99) rfl (flt (by decide)).1 ?_
      show Steps p.tables e below (T34.setTop (mkF m 102 #[.val (.int p1), .val (.int p2), .val (.long q3), .second, .val (.long q4), .second, .val (.long q5), .second, .val (.long q6), .second, .val (.int (4 : Int32)), .val (.long (own_pick p2 (0 : Int32) q3)), .second, .val (.long (own_pick p2 (1 : Int32) q4)), .second, .val (.long (own_pick p2 (2 : Int32) q5)), .second, .val (.long (own_pick p2 (3 : Int32) q6)), .second, .val (.ref b26), .unset] [])) _
      refine XS.lload X34.here hx rfl (hb hby at_102) rfl ?_
      show Steps p.tables e below (T34.setTop (mkF m 104 #[.val (.int p1), .val (.int p2), .val (.long q3), .second, .val (.long q4), .second, .val (.long q5), .second, .val (.long q6), .second, .val (.int (4 : Int32)), .val (.long (own_pick p2 (0 : Int32) q3)), .second, .val (.long (own_pick p2 (1 : Int32) q4)), .second, .val (.long (own_pick p2 (2 : Int32) q5)), .second, .val (.long (own_pick p2 (3 : Int32) q6)), .second, .val (.ref b26), .unset] [(.long (own_pick p2 (0 : Int32) q3))])) _
      refine XS.lconst X34.here hx rfl (hb hby at_104) ?_
      show Steps p.tables e below (T34.setTop (mkF m 105 #[.val (.int p1), .val (.int p2), .val (.long q3), .second, .val (.long q4), .second, .val (.long q5), .second, .val (.long q6), .second, .val (.int (4 : Int32)), .val (.long (own_pick p2 (0 : Int32) q3)), .second, .val (.long (own_pick p2 (1 : Int32) q4)), .second, .val (.long (own_pick p2 (2 : Int32) q5)), .second, .val (.long (own_pick p2 (3 : Int32) q6)), .second, .val (.ref b26), .unset] [(.long (0 : Int64)), (.long (own_pick p2 (0 : Int32) q3))])) _
      refine XS.lcmp X34.here hx rfl (hb hby at_105) rfl ?_
      by_cases hc106 : (own_pick p2 (0 : Int32) q3) = (0 : Int64)
      · show Steps p.tables e below (T34.setTop (mkF m 106 #[.val (.int p1), .val (.int p2), .val (.long q3), .second, .val (.long q4), .second, .val (.long q5), .second, .val (.long q6), .second, .val (.int (4 : Int32)), .val (.long (own_pick p2 (0 : Int32) q3)), .second, .val (.long (own_pick p2 (1 : Int32) q4)), .second, .val (.long (own_pick p2 (2 : Int32) q5)), .second, .val (.long (own_pick p2 (3 : Int32) q6)), .second, .val (.ref b26), .unset] [(.int (lcmpW (own_pick p2 (0 : Int32) q3) (0 : Int64)))])) _
        refine XS.ifNo X34.here hx rfl (hb hby at_106) rfl ((if0 _ _).trans (teq ((lw_eq (own_pick p2 (0 : Int32) q3) (0 : Int64)).mpr hc106)).2) ?_
        show Steps p.tables e below (T34.setTop (mkF m 109 #[.val (.int p1), .val (.int p2), .val (.long q3), .second, .val (.long q4), .second, .val (.long q5), .second, .val (.long q6), .second, .val (.int (4 : Int32)), .val (.long (own_pick p2 (0 : Int32) q3)), .second, .val (.long (own_pick p2 (1 : Int32) q4)), .second, .val (.long (own_pick p2 (2 : Int32) q5)), .second, .val (.long (own_pick p2 (3 : Int32) q6)), .second, .val (.ref b26), .unset] [])) _
        refine XS.iload X34.here hx rfl (hb hby at_109) rfl ?_
        show Steps p.tables e below (T34.setTop (mkF m 111 #[.val (.int p1), .val (.int p2), .val (.long q3), .second, .val (.long q4), .second, .val (.long q5), .second, .val (.long q6), .second, .val (.int (4 : Int32)), .val (.long (own_pick p2 (0 : Int32) q3)), .second, .val (.long (own_pick p2 (1 : Int32) q4)), .second, .val (.long (own_pick p2 (2 : Int32) q5)), .second, .val (.long (own_pick p2 (3 : Int32) q6)), .second, .val (.ref b26), .unset] [(.int (4 : Int32))])) _
        refine XS.iconst X34.here hx rfl (hb hby at_111) ?_
        show Steps p.tables e below (T34.setTop (mkF m 112 #[.val (.int p1), .val (.int p2), .val (.long q3), .second, .val (.long q4), .second, .val (.long q5), .second, .val (.long q6), .second, .val (.int (4 : Int32)), .val (.long (own_pick p2 (0 : Int32) q3)), .second, .val (.long (own_pick p2 (1 : Int32) q4)), .second, .val (.long (own_pick p2 (2 : Int32) q5)), .second, .val (.long (own_pick p2 (3 : Int32) q6)), .second, .val (.ref b26), .unset] [(.int (2 : Int32)), (.int (4 : Int32))])) _
        refine XS.icmpNo X34.here hx rfl (hb hby at_112) rfl (flt (by decide)).1 ?_
        show Steps p.tables e below (T34.setTop (mkF m 115 #[.val (.int p1), .val (.int p2), .val (.long q3), .second, .val (.long q4), .second, .val (.long q5), .second, .val (.long q6), .second, .val (.int (4 : Int32)), .val (.long (own_pick p2 (0 : Int32) q3)), .second, .val (.long (own_pick p2 (1 : Int32) q4)), .second, .val (.long (own_pick p2 (2 : Int32) q5)), .second, .val (.long (own_pick p2 (3 : Int32) q6)), .second, .val (.ref b26), .unset] [])) _
        refine XS.lload X34.here hx rfl (hb hby at_115) rfl ?_
        show Steps p.tables e below (T34.setTop (mkF m 117 #[.val (.int p1), .val (.int p2), .val (.long q3), .second, .val (.long q4), .second, .val (.long q5), .second, .val (.long q6), .second, .val (.int (4 : Int32)), .val (.long (own_pick p2 (0 : Int32) q3)), .second, .val (.long (own_pick p2 (1 : Int32) q4)), .second, .val (.long (own_pick p2 (2 : Int32) q5)), .second, .val (.long (own_pick p2 (3 : Int32) q6)), .second, .val (.ref b26), .unset] [(.long (own_pick p2 (1 : Int32) q4))])) _
        refine XS.lconst X34.here hx rfl (hb hby at_117) ?_
        show Steps p.tables e below (T34.setTop (mkF m 118 #[.val (.int p1), .val (.int p2), .val (.long q3), .second, .val (.long q4), .second, .val (.long q5), .second, .val (.long q6), .second, .val (.int (4 : Int32)), .val (.long (own_pick p2 (0 : Int32) q3)), .second, .val (.long (own_pick p2 (1 : Int32) q4)), .second, .val (.long (own_pick p2 (2 : Int32) q5)), .second, .val (.long (own_pick p2 (3 : Int32) q6)), .second, .val (.ref b26), .unset] [(.long (0 : Int64)), (.long (own_pick p2 (1 : Int32) q4))])) _
        refine XS.lcmp X34.here hx rfl (hb hby at_118) rfl ?_
        by_cases hc119 : (own_pick p2 (1 : Int32) q4) = (0 : Int64)
        · show Steps p.tables e below (T34.setTop (mkF m 119 #[.val (.int p1), .val (.int p2), .val (.long q3), .second, .val (.long q4), .second, .val (.long q5), .second, .val (.long q6), .second, .val (.int (4 : Int32)), .val (.long (own_pick p2 (0 : Int32) q3)), .second, .val (.long (own_pick p2 (1 : Int32) q4)), .second, .val (.long (own_pick p2 (2 : Int32) q5)), .second, .val (.long (own_pick p2 (3 : Int32) q6)), .second, .val (.ref b26), .unset] [(.int (lcmpW (own_pick p2 (1 : Int32) q4) (0 : Int64)))])) _
          refine XS.ifNo X34.here hx rfl (hb hby at_119) rfl ((if0 _ _).trans (teq ((lw_eq (own_pick p2 (1 : Int32) q4) (0 : Int64)).mpr hc119)).2) ?_
          show Steps p.tables e below (T34.setTop (mkF m 122 #[.val (.int p1), .val (.int p2), .val (.long q3), .second, .val (.long q4), .second, .val (.long q5), .second, .val (.long q6), .second, .val (.int (4 : Int32)), .val (.long (own_pick p2 (0 : Int32) q3)), .second, .val (.long (own_pick p2 (1 : Int32) q4)), .second, .val (.long (own_pick p2 (2 : Int32) q5)), .second, .val (.long (own_pick p2 (3 : Int32) q6)), .second, .val (.ref b26), .unset] [])) _
          refine XS.iload X34.here hx rfl (hb hby at_122) rfl ?_
          show Steps p.tables e below (T34.setTop (mkF m 124 #[.val (.int p1), .val (.int p2), .val (.long q3), .second, .val (.long q4), .second, .val (.long q5), .second, .val (.long q6), .second, .val (.int (4 : Int32)), .val (.long (own_pick p2 (0 : Int32) q3)), .second, .val (.long (own_pick p2 (1 : Int32) q4)), .second, .val (.long (own_pick p2 (2 : Int32) q5)), .second, .val (.long (own_pick p2 (3 : Int32) q6)), .second, .val (.ref b26), .unset] [(.int (4 : Int32))])) _
          refine XS.iconst X34.here hx rfl (hb hby at_124) ?_
          show Steps p.tables e below (T34.setTop (mkF m 125 #[.val (.int p1), .val (.int p2), .val (.long q3), .second, .val (.long q4), .second, .val (.long q5), .second, .val (.long q6), .second, .val (.int (4 : Int32)), .val (.long (own_pick p2 (0 : Int32) q3)), .second, .val (.long (own_pick p2 (1 : Int32) q4)), .second, .val (.long (own_pick p2 (2 : Int32) q5)), .second, .val (.long (own_pick p2 (3 : Int32) q6)), .second, .val (.ref b26), .unset] [(.int (3 : Int32)), (.int (4 : Int32))])) _
          refine XS.icmpNo X34.here hx rfl (hb hby at_125) rfl (flt (by decide)).1 ?_
          show Steps p.tables e below (T34.setTop (mkF m 128 #[.val (.int p1), .val (.int p2), .val (.long q3), .second, .val (.long q4), .second, .val (.long q5), .second, .val (.long q6), .second, .val (.int (4 : Int32)), .val (.long (own_pick p2 (0 : Int32) q3)), .second, .val (.long (own_pick p2 (1 : Int32) q4)), .second, .val (.long (own_pick p2 (2 : Int32) q5)), .second, .val (.long (own_pick p2 (3 : Int32) q6)), .second, .val (.ref b26), .unset] [])) _
          refine XS.lload X34.here hx rfl (hb hby at_128) rfl ?_
          show Steps p.tables e below (T34.setTop (mkF m 130 #[.val (.int p1), .val (.int p2), .val (.long q3), .second, .val (.long q4), .second, .val (.long q5), .second, .val (.long q6), .second, .val (.int (4 : Int32)), .val (.long (own_pick p2 (0 : Int32) q3)), .second, .val (.long (own_pick p2 (1 : Int32) q4)), .second, .val (.long (own_pick p2 (2 : Int32) q5)), .second, .val (.long (own_pick p2 (3 : Int32) q6)), .second, .val (.ref b26), .unset] [(.long (own_pick p2 (2 : Int32) q5))])) _
          refine XS.lconst X34.here hx rfl (hb hby at_130) ?_
          show Steps p.tables e below (T34.setTop (mkF m 131 #[.val (.int p1), .val (.int p2), .val (.long q3), .second, .val (.long q4), .second, .val (.long q5), .second, .val (.long q6), .second, .val (.int (4 : Int32)), .val (.long (own_pick p2 (0 : Int32) q3)), .second, .val (.long (own_pick p2 (1 : Int32) q4)), .second, .val (.long (own_pick p2 (2 : Int32) q5)), .second, .val (.long (own_pick p2 (3 : Int32) q6)), .second, .val (.ref b26), .unset] [(.long (0 : Int64)), (.long (own_pick p2 (2 : Int32) q5))])) _
          refine XS.lcmp X34.here hx rfl (hb hby at_131) rfl ?_
          by_cases hc132 : (own_pick p2 (2 : Int32) q5) = (0 : Int64)
          · show Steps p.tables e below (T34.setTop (mkF m 132 #[.val (.int p1), .val (.int p2), .val (.long q3), .second, .val (.long q4), .second, .val (.long q5), .second, .val (.long q6), .second, .val (.int (4 : Int32)), .val (.long (own_pick p2 (0 : Int32) q3)), .second, .val (.long (own_pick p2 (1 : Int32) q4)), .second, .val (.long (own_pick p2 (2 : Int32) q5)), .second, .val (.long (own_pick p2 (3 : Int32) q6)), .second, .val (.ref b26), .unset] [(.int (lcmpW (own_pick p2 (2 : Int32) q5) (0 : Int64)))])) _
            refine XS.ifNo X34.here hx rfl (hb hby at_132) rfl ((if0 _ _).trans (teq ((lw_eq (own_pick p2 (2 : Int32) q5) (0 : Int64)).mpr hc132)).2) ?_
            show Steps p.tables e below (T34.setTop (mkF m 135 #[.val (.int p1), .val (.int p2), .val (.long q3), .second, .val (.long q4), .second, .val (.long q5), .second, .val (.long q6), .second, .val (.int (4 : Int32)), .val (.long (own_pick p2 (0 : Int32) q3)), .second, .val (.long (own_pick p2 (1 : Int32) q4)), .second, .val (.long (own_pick p2 (2 : Int32) q5)), .second, .val (.long (own_pick p2 (3 : Int32) q6)), .second, .val (.ref b26), .unset] [])) _
            refine XS.iload X34.here hx rfl (hb hby at_135) rfl ?_
            show Steps p.tables e below (T34.setTop (mkF m 137 #[.val (.int p1), .val (.int p2), .val (.long q3), .second, .val (.long q4), .second, .val (.long q5), .second, .val (.long q6), .second, .val (.int (4 : Int32)), .val (.long (own_pick p2 (0 : Int32) q3)), .second, .val (.long (own_pick p2 (1 : Int32) q4)), .second, .val (.long (own_pick p2 (2 : Int32) q5)), .second, .val (.long (own_pick p2 (3 : Int32) q6)), .second, .val (.ref b26), .unset] [(.int (4 : Int32))])) _
            refine XS.iconst X34.here hx rfl (hb hby at_137) ?_
            show Steps p.tables e below (T34.setTop (mkF m 138 #[.val (.int p1), .val (.int p2), .val (.long q3), .second, .val (.long q4), .second, .val (.long q5), .second, .val (.long q6), .second, .val (.int (4 : Int32)), .val (.long (own_pick p2 (0 : Int32) q3)), .second, .val (.long (own_pick p2 (1 : Int32) q4)), .second, .val (.long (own_pick p2 (2 : Int32) q5)), .second, .val (.long (own_pick p2 (3 : Int32) q6)), .second, .val (.ref b26), .unset] [(.int (4 : Int32)), (.int (4 : Int32))])) _
            refine XS.icmpNo X34.here hx rfl (hb hby at_138) rfl (flt (by decide)).1 ?_
            show Steps p.tables e below (T34.setTop (mkF m 141 #[.val (.int p1), .val (.int p2), .val (.long q3), .second, .val (.long q4), .second, .val (.long q5), .second, .val (.long q6), .second, .val (.int (4 : Int32)), .val (.long (own_pick p2 (0 : Int32) q3)), .second, .val (.long (own_pick p2 (1 : Int32) q4)), .second, .val (.long (own_pick p2 (2 : Int32) q5)), .second, .val (.long (own_pick p2 (3 : Int32) q6)), .second, .val (.ref b26), .unset] [])) _
            refine XS.lload X34.here hx rfl (hb hby at_141) rfl ?_
            show Steps p.tables e below (T34.setTop (mkF m 143 #[.val (.int p1), .val (.int p2), .val (.long q3), .second, .val (.long q4), .second, .val (.long q5), .second, .val (.long q6), .second, .val (.int (4 : Int32)), .val (.long (own_pick p2 (0 : Int32) q3)), .second, .val (.long (own_pick p2 (1 : Int32) q4)), .second, .val (.long (own_pick p2 (2 : Int32) q5)), .second, .val (.long (own_pick p2 (3 : Int32) q6)), .second, .val (.ref b26), .unset] [(.long (own_pick p2 (3 : Int32) q6))])) _
            refine XS.lconst X34.here hx rfl (hb hby at_143) ?_
            show Steps p.tables e below (T34.setTop (mkF m 144 #[.val (.int p1), .val (.int p2), .val (.long q3), .second, .val (.long q4), .second, .val (.long q5), .second, .val (.long q6), .second, .val (.int (4 : Int32)), .val (.long (own_pick p2 (0 : Int32) q3)), .second, .val (.long (own_pick p2 (1 : Int32) q4)), .second, .val (.long (own_pick p2 (2 : Int32) q5)), .second, .val (.long (own_pick p2 (3 : Int32) q6)), .second, .val (.ref b26), .unset] [(.long (0 : Int64)), (.long (own_pick p2 (3 : Int32) q6))])) _
            refine XS.lcmp X34.here hx rfl (hb hby at_144) rfl ?_
            by_cases hc145 : (own_pick p2 (3 : Int32) q6) = (0 : Int64)
            · have qj96_S0k4 : j96_S0k4 = (1 : Int32) := by rw [ej96_S0k4, if_pos hc106, if_pos hc119, if_pos hc132, if_pos hc145]
              rw [qj96_S0k4] at kt
              show Steps p.tables e below (T34.setTop (mkF m 145 #[.val (.int p1), .val (.int p2), .val (.long q3), .second, .val (.long q4), .second, .val (.long q5), .second, .val (.long q6), .second, .val (.int (4 : Int32)), .val (.long (own_pick p2 (0 : Int32) q3)), .second, .val (.long (own_pick p2 (1 : Int32) q4)), .second, .val (.long (own_pick p2 (2 : Int32) q5)), .second, .val (.long (own_pick p2 (3 : Int32) q6)), .second, .val (.ref b26), .unset] [(.int (lcmpW (own_pick p2 (3 : Int32) q6) (0 : Int64)))])) _
              refine XS.ifNo X34.here hx rfl (hb hby at_145) rfl ((if0 _ _).trans (teq ((lw_eq (own_pick p2 (3 : Int32) q6) (0 : Int64)).mpr hc145)).2) ?_
              show Steps p.tables e below (T34.setTop (mkF m 148 #[.val (.int p1), .val (.int p2), .val (.long q3), .second, .val (.long q4), .second, .val (.long q5), .second, .val (.long q6), .second, .val (.int (4 : Int32)), .val (.long (own_pick p2 (0 : Int32) q3)), .second, .val (.long (own_pick p2 (1 : Int32) q4)), .second, .val (.long (own_pick p2 (2 : Int32) q5)), .second, .val (.long (own_pick p2 (3 : Int32) q6)), .second, .val (.ref b26), .unset] [])) _
              refine XS.iconst X34.here hx rfl (hb hby at_148) ?_
              show Steps p.tables e below (T34.setTop (mkF m 149 #[.val (.int p1), .val (.int p2), .val (.long q3), .second, .val (.long q4), .second, .val (.long q5), .second, .val (.long q6), .second, .val (.int (4 : Int32)), .val (.long (own_pick p2 (0 : Int32) q3)), .second, .val (.long (own_pick p2 (1 : Int32) q4)), .second, .val (.long (own_pick p2 (2 : Int32) q5)), .second, .val (.long (own_pick p2 (3 : Int32) q6)), .second, .val (.ref b26), .unset] [(.int (1 : Int32))])) _
              refine XS.goto X34.here hx rfl (pc0 := 149) (pc' := 153) rfl (hb hby at_149) (by decide) (by decide) ?_
              exact kt
            · have qj96_S0k4 : j96_S0k4 = (0 : Int32) := by rw [ej96_S0k4, if_pos hc106, if_pos hc119, if_pos hc132, if_neg hc145]
              rw [qj96_S0k4] at kt
              show Steps p.tables e below (T34.setTop (mkF m 145 #[.val (.int p1), .val (.int p2), .val (.long q3), .second, .val (.long q4), .second, .val (.long q5), .second, .val (.long q6), .second, .val (.int (4 : Int32)), .val (.long (own_pick p2 (0 : Int32) q3)), .second, .val (.long (own_pick p2 (1 : Int32) q4)), .second, .val (.long (own_pick p2 (2 : Int32) q5)), .second, .val (.long (own_pick p2 (3 : Int32) q6)), .second, .val (.ref b26), .unset] [(.int (lcmpW (own_pick p2 (3 : Int32) q6) (0 : Int64)))])) _
              refine XS.ifYes X34.here hx rfl (pc0 := 145) (pc' := 152) rfl (hb hby at_145) rfl ((if0 _ _).trans (feq (fun q => hc145 ((lw_eq (own_pick p2 (3 : Int32) q6) (0 : Int64)).mp q))).2) (by decide) (by decide) ?_
              show Steps p.tables e below (T34.setTop (mkF m 152 #[.val (.int p1), .val (.int p2), .val (.long q3), .second, .val (.long q4), .second, .val (.long q5), .second, .val (.long q6), .second, .val (.int (4 : Int32)), .val (.long (own_pick p2 (0 : Int32) q3)), .second, .val (.long (own_pick p2 (1 : Int32) q4)), .second, .val (.long (own_pick p2 (2 : Int32) q5)), .second, .val (.long (own_pick p2 (3 : Int32) q6)), .second, .val (.ref b26), .unset] [])) _
              refine XS.iconst X34.here hx rfl (hb hby at_152) ?_
              exact kt
          · have qj96_S0k4 : j96_S0k4 = (0 : Int32) := by rw [ej96_S0k4, if_pos hc106, if_pos hc119, if_neg hc132]
            rw [qj96_S0k4] at kt
            show Steps p.tables e below (T34.setTop (mkF m 132 #[.val (.int p1), .val (.int p2), .val (.long q3), .second, .val (.long q4), .second, .val (.long q5), .second, .val (.long q6), .second, .val (.int (4 : Int32)), .val (.long (own_pick p2 (0 : Int32) q3)), .second, .val (.long (own_pick p2 (1 : Int32) q4)), .second, .val (.long (own_pick p2 (2 : Int32) q5)), .second, .val (.long (own_pick p2 (3 : Int32) q6)), .second, .val (.ref b26), .unset] [(.int (lcmpW (own_pick p2 (2 : Int32) q5) (0 : Int64)))])) _
            refine XS.ifYes X34.here hx rfl (pc0 := 132) (pc' := 152) rfl (hb hby at_132) rfl ((if0 _ _).trans (feq (fun q => hc132 ((lw_eq (own_pick p2 (2 : Int32) q5) (0 : Int64)).mp q))).2) (by decide) (by decide) ?_
            show Steps p.tables e below (T34.setTop (mkF m 152 #[.val (.int p1), .val (.int p2), .val (.long q3), .second, .val (.long q4), .second, .val (.long q5), .second, .val (.long q6), .second, .val (.int (4 : Int32)), .val (.long (own_pick p2 (0 : Int32) q3)), .second, .val (.long (own_pick p2 (1 : Int32) q4)), .second, .val (.long (own_pick p2 (2 : Int32) q5)), .second, .val (.long (own_pick p2 (3 : Int32) q6)), .second, .val (.ref b26), .unset] [])) _
            refine XS.iconst X34.here hx rfl (hb hby at_152) ?_
            exact kt
        · have qj96_S0k4 : j96_S0k4 = (0 : Int32) := by rw [ej96_S0k4, if_pos hc106, if_neg hc119]
          rw [qj96_S0k4] at kt
          show Steps p.tables e below (T34.setTop (mkF m 119 #[.val (.int p1), .val (.int p2), .val (.long q3), .second, .val (.long q4), .second, .val (.long q5), .second, .val (.long q6), .second, .val (.int (4 : Int32)), .val (.long (own_pick p2 (0 : Int32) q3)), .second, .val (.long (own_pick p2 (1 : Int32) q4)), .second, .val (.long (own_pick p2 (2 : Int32) q5)), .second, .val (.long (own_pick p2 (3 : Int32) q6)), .second, .val (.ref b26), .unset] [(.int (lcmpW (own_pick p2 (1 : Int32) q4) (0 : Int64)))])) _
          refine XS.ifYes X34.here hx rfl (pc0 := 119) (pc' := 152) rfl (hb hby at_119) rfl ((if0 _ _).trans (feq (fun q => hc119 ((lw_eq (own_pick p2 (1 : Int32) q4) (0 : Int64)).mp q))).2) (by decide) (by decide) ?_
          show Steps p.tables e below (T34.setTop (mkF m 152 #[.val (.int p1), .val (.int p2), .val (.long q3), .second, .val (.long q4), .second, .val (.long q5), .second, .val (.long q6), .second, .val (.int (4 : Int32)), .val (.long (own_pick p2 (0 : Int32) q3)), .second, .val (.long (own_pick p2 (1 : Int32) q4)), .second, .val (.long (own_pick p2 (2 : Int32) q5)), .second, .val (.long (own_pick p2 (3 : Int32) q6)), .second, .val (.ref b26), .unset] [])) _
          refine XS.iconst X34.here hx rfl (hb hby at_152) ?_
          exact kt
      · have qj96_S0k4 : j96_S0k4 = (0 : Int32) := by rw [ej96_S0k4, if_neg hc106]
        rw [qj96_S0k4] at kt
        show Steps p.tables e below (T34.setTop (mkF m 106 #[.val (.int p1), .val (.int p2), .val (.long q3), .second, .val (.long q4), .second, .val (.long q5), .second, .val (.long q6), .second, .val (.int (4 : Int32)), .val (.long (own_pick p2 (0 : Int32) q3)), .second, .val (.long (own_pick p2 (1 : Int32) q4)), .second, .val (.long (own_pick p2 (2 : Int32) q5)), .second, .val (.long (own_pick p2 (3 : Int32) q6)), .second, .val (.ref b26), .unset] [(.int (lcmpW (own_pick p2 (0 : Int32) q3) (0 : Int64)))])) _
        refine XS.ifYes X34.here hx rfl (pc0 := 106) (pc' := 152) rfl (hb hby at_106) rfl ((if0 _ _).trans (feq (fun q => hc106 ((lw_eq (own_pick p2 (0 : Int32) q3) (0 : Int64)).mp q))).2) (by decide) (by decide) ?_
        show Steps p.tables e below (T34.setTop (mkF m 152 #[.val (.int p1), .val (.int p2), .val (.long q3), .second, .val (.long q4), .second, .val (.long q5), .second, .val (.long q6), .second, .val (.int (4 : Int32)), .val (.long (own_pick p2 (0 : Int32) q3)), .second, .val (.long (own_pick p2 (1 : Int32) q4)), .second, .val (.long (own_pick p2 (2 : Int32) q5)), .second, .val (.long (own_pick p2 (3 : Int32) q6)), .second, .val (.ref b26), .unset] [])) _
        refine XS.iconst X34.here hx rfl (hb hby at_152) ?_
        exact kt
    obtain ⟨_, _, ⟨T35, L35, k35, n35⟩, -, X35, ⟨Lc35, hQ35, l35, y35, z35⟩, st35⟩ := Jvm.LawKit.callS X34 hx (y := (⟨"com/example/vestline/vestline/ProRata", "noWeight", "([J)Z"⟩ : MethodName)) hown (mvT hZ (hw _ (List.mem_of_getElem? (i := 7) rfl))) (mvT hZ (hw _ (List.mem_of_getElem? (i := 8) rfl))) (mvT hZ (hw _ (List.mem_of_getElem? (i := 9) rfl))) (mvT hZ (hw _ (List.mem_of_getElem? (i := 10) rfl))) (by decide) (backOf (W := 0) (rm2n4 l Z a0 hw [] b26 k26 (own_pick p2 (0 : Int32) q3) (own_pick p2 (1 : Int32) q4) (own_pick p2 (2 : Int32) q5) (own_pick p2 (3 : Int32) q6) h34 n0 Z34 V34) hZ (hw _ (List.mem_of_getElem? (i := 10) rfl)) (hw _ (List.mem_of_getElem? (i := 9) rfl)) (by decide) (by decide)) (g := (mkF m 157 #[.val (.int p1), .val (.int p2), .val (.long q3), .second, .val (.long q4), .second, .val (.long q5), .second, .val (.long q6), .second, .val (.int (4 : Int32)), .val (.long (own_pick p2 (0 : Int32) q3)), .second, .val (.long (own_pick p2 (1 : Int32) q4)), .second, .val (.long (own_pick p2 (2 : Int32) q5)), .second, .val (.long (own_pick p2 (3 : Int32) q6)), .second, .val (.ref b26), .val (.int j96_S0k4)] [(.ref b26)])) rfl (by rw [hml]; rfl) (argsL := [(.ref b26)]) (rest := []) (lenOf pd0_1 rfl) rfl (by show 2 * 0 + _ ≤ _; exact Nat.le_of_eq rfl) (hb hby at_157) (fun _ _ => ⟨rfl, e34, (by decide : 1 + 0 ≤ _), (by decide : 4 + 0 ≤ _)⟩)
    dsimp only [Pt.U, Pt.locs, Pt.cells, Pt.slots] at X35 l35 y35 z35 st35 hQ35
    subst l35 y35 z35
    obtain ⟨rfl, N35q, e35⟩ := hQ35
    have N35 := Fr.app N34 N35q
    obtain ⟨fs, hr, hrun, hended, hW, hsame⟩ := X35.leave (v := some (.int (1 : Int32))) (fun h => by rw [Bd.returns] at h; cases h)
    refine ⟨_, _, c5 _ ?_, hrun, hended, _, _, rfl, ?_, ⟨_, rfl⟩, hW, hsame.mono (by decide) (by decide)⟩
    · show Steps p.tables e below (T4.setTop (mkF m 43 #[.val (.int p1), .val (.int p2), .val (.long q3), .second, .val (.long q4), .second, .val (.long q5), .second, .val (.long q6), .second, .val (.int (4 : Int32)), .val (.long (own_pick p2 (0 : Int32) q3)), .second, .val (.long (own_pick p2 (1 : Int32) q4)), .second, .val (.long (own_pick p2 (2 : Int32) q5)), .second, .val (.long (own_pick p2 (3 : Int32) q6)), .second, .unset, .unset] [])) _
      refine XS.iload X4.here hx rfl (hb hby at_43) rfl ?_
      show Steps p.tables e below (T4.setTop (mkF m 45 #[.val (.int p1), .val (.int p2), .val (.long q3), .second, .val (.long q4), .second, .val (.long q5), .second, .val (.long q6), .second, .val (.int (4 : Int32)), .val (.long (own_pick p2 (0 : Int32) q3)), .second, .val (.long (own_pick p2 (1 : Int32) q4)), .second, .val (.long (own_pick p2 (2 : Int32) q5)), .second, .val (.long (own_pick p2 (3 : Int32) q6)), .second, .unset, .unset] [(.int (4 : Int32))])) _
      refine st26 _ ?_
      show Steps p.tables e below (T26.setTop (mkF m 47 #[.val (.int p1), .val (.int p2), .val (.long q3), .second, .val (.long q4), .second, .val (.long q5), .second, .val (.long q6), .second, .val (.int (4 : Int32)), .val (.long (own_pick p2 (0 : Int32) q3)), .second, .val (.long (own_pick p2 (1 : Int32) q4)), .second, .val (.long (own_pick p2 (2 : Int32) q5)), .second, .val (.long (own_pick p2 (3 : Int32) q6)), .second, .unset, .unset] [(.ref b26)])) _
      refine XS.astore X26.here hx rfl (hb hby at_47) rfl rfl (l' := #[.val (.int p1), .val (.int p2), .val (.long q3), .second, .val (.long q4), .second, .val (.long q5), .second, .val (.long q6), .second, .val (.int (4 : Int32)), .val (.long (own_pick p2 (0 : Int32) q3)), .second, .val (.long (own_pick p2 (1 : Int32) q4)), .second, .val (.long (own_pick p2 (2 : Int32) q5)), .second, .val (.long (own_pick p2 (3 : Int32) q6)), .second, .val (.ref b26), .unset]) rfl ?_
      show Steps p.tables e below (T26.setTop (mkF m 49 #[.val (.int p1), .val (.int p2), .val (.long q3), .second, .val (.long q4), .second, .val (.long q5), .second, .val (.long q6), .second, .val (.int (4 : Int32)), .val (.long (own_pick p2 (0 : Int32) q3)), .second, .val (.long (own_pick p2 (1 : Int32) q4)), .second, .val (.long (own_pick p2 (2 : Int32) q5)), .second, .val (.long (own_pick p2 (3 : Int32) q6)), .second, .val (.ref b26), .unset] [])) _
      refine XS.iload X26.here hx rfl (hb hby at_49) rfl ?_
      show Steps p.tables e below (T26.setTop (mkF m 51 #[.val (.int p1), .val (.int p2), .val (.long q3), .second, .val (.long q4), .second, .val (.long q5), .second, .val (.long q6), .second, .val (.int (4 : Int32)), .val (.long (own_pick p2 (0 : Int32) q3)), .second, .val (.long (own_pick p2 (1 : Int32) q4)), .second, .val (.long (own_pick p2 (2 : Int32) q5)), .second, .val (.long (own_pick p2 (3 : Int32) q6)), .second, .val (.ref b26), .unset] [(.int (4 : Int32))])) _
      refine XS.ifNo X26.here hx rfl (hb hby at_51) rfl ((if0 _ _).trans (tlt (by decide)).2.2.2) ?_
      show Steps p.tables e below (T26.setTop (mkF m 54 #[.val (.int p1), .val (.int p2), .val (.long q3), .second, .val (.long q4), .second, .val (.long q5), .second, .val (.long q6), .second, .val (.int (4 : Int32)), .val (.long (own_pick p2 (0 : Int32) q3)), .second, .val (.long (own_pick p2 (1 : Int32) q4)), .second, .val (.long (own_pick p2 (2 : Int32) q5)), .second, .val (.long (own_pick p2 (3 : Int32) q6)), .second, .val (.ref b26), .unset] [])) _
      refine XS.aload X26.here hx rfl (hb hby at_54) rfl rfl ?_
      show Steps p.tables e below (T26.setTop (mkF m 56 #[.val (.int p1), .val (.int p2), .val (.long q3), .second, .val (.long q4), .second, .val (.long q5), .second, .val (.long q6), .second, .val (.int (4 : Int32)), .val (.long (own_pick p2 (0 : Int32) q3)), .second, .val (.long (own_pick p2 (1 : Int32) q4)), .second, .val (.long (own_pick p2 (2 : Int32) q5)), .second, .val (.long (own_pick p2 (3 : Int32) q6)), .second, .val (.ref b26), .unset] [(.ref b26)])) _
      refine XS.iconst X26.here hx rfl (hb hby at_56) ?_
      show Steps p.tables e below (T26.setTop (mkF m 57 #[.val (.int p1), .val (.int p2), .val (.long q3), .second, .val (.long q4), .second, .val (.long q5), .second, .val (.long q6), .second, .val (.int (4 : Int32)), .val (.long (own_pick p2 (0 : Int32) q3)), .second, .val (.long (own_pick p2 (1 : Int32) q4)), .second, .val (.long (own_pick p2 (2 : Int32) q5)), .second, .val (.long (own_pick p2 (3 : Int32) q6)), .second, .val (.ref b26), .unset] [(.int (0 : Int32)), (.ref b26)])) _
      refine XS.lload X26.here hx rfl (hb hby at_57) rfl ?_
      show Steps p.tables e below (T26.setTop (mkF m 59 #[.val (.int p1), .val (.int p2), .val (.long q3), .second, .val (.long q4), .second, .val (.long q5), .second, .val (.long q6), .second, .val (.int (4 : Int32)), .val (.long (own_pick p2 (0 : Int32) q3)), .second, .val (.long (own_pick p2 (1 : Int32) q4)), .second, .val (.long (own_pick p2 (2 : Int32) q5)), .second, .val (.long (own_pick p2 (3 : Int32) q6)), .second, .val (.ref b26), .unset] [(.long (own_pick p2 (0 : Int32) q3)), (.int (0 : Int32)), (.ref b26)])) _
      refine st28 _ ?_
      show Steps p.tables e below (T28.setTop (mkF m 60 #[.val (.int p1), .val (.int p2), .val (.long q3), .second, .val (.long q4), .second, .val (.long q5), .second, .val (.long q6), .second, .val (.int (4 : Int32)), .val (.long (own_pick p2 (0 : Int32) q3)), .second, .val (.long (own_pick p2 (1 : Int32) q4)), .second, .val (.long (own_pick p2 (2 : Int32) q5)), .second, .val (.long (own_pick p2 (3 : Int32) q6)), .second, .val (.ref b26), .unset] [])) _
      refine XS.iload X28.here hx rfl (hb hby at_60) rfl ?_
      show Steps p.tables e below (T28.setTop (mkF m 62 #[.val (.int p1), .val (.int p2), .val (.long q3), .second, .val (.long q4), .second, .val (.long q5), .second, .val (.long q6), .second, .val (.int (4 : Int32)), .val (.long (own_pick p2 (0 : Int32) q3)), .second, .val (.long (own_pick p2 (1 : Int32) q4)), .second, .val (.long (own_pick p2 (2 : Int32) q5)), .second, .val (.long (own_pick p2 (3 : Int32) q6)), .second, .val (.ref b26), .unset] [(.int (4 : Int32))])) _
      refine XS.iconst X28.here hx rfl (hb hby at_62) ?_
      show Steps p.tables e below (T28.setTop (mkF m 63 #[.val (.int p1), .val (.int p2), .val (.long q3), .second, .val (.long q4), .second, .val (.long q5), .second, .val (.long q6), .second, .val (.int (4 : Int32)), .val (.long (own_pick p2 (0 : Int32) q3)), .second, .val (.long (own_pick p2 (1 : Int32) q4)), .second, .val (.long (own_pick p2 (2 : Int32) q5)), .second, .val (.long (own_pick p2 (3 : Int32) q6)), .second, .val (.ref b26), .unset] [(.int (1 : Int32)), (.int (4 : Int32))])) _
      refine XS.icmpNo X28.here hx rfl (hb hby at_63) rfl (tlt (by decide)).2.2.2 ?_
      show Steps p.tables e below (T28.setTop (mkF m 66 #[.val (.int p1), .val (.int p2), .val (.long q3), .second, .val (.long q4), .second, .val (.long q5), .second, .val (.long q6), .second, .val (.int (4 : Int32)), .val (.long (own_pick p2 (0 : Int32) q3)), .second, .val (.long (own_pick p2 (1 : Int32) q4)), .second, .val (.long (own_pick p2 (2 : Int32) q5)), .second, .val (.long (own_pick p2 (3 : Int32) q6)), .second, .val (.ref b26), .unset] [])) _
      refine XS.aload X28.here hx rfl (hb hby at_66) rfl rfl ?_
      show Steps p.tables e below (T28.setTop (mkF m 68 #[.val (.int p1), .val (.int p2), .val (.long q3), .second, .val (.long q4), .second, .val (.long q5), .second, .val (.long q6), .second, .val (.int (4 : Int32)), .val (.long (own_pick p2 (0 : Int32) q3)), .second, .val (.long (own_pick p2 (1 : Int32) q4)), .second, .val (.long (own_pick p2 (2 : Int32) q5)), .second, .val (.long (own_pick p2 (3 : Int32) q6)), .second, .val (.ref b26), .unset] [(.ref b26)])) _
      refine XS.iconst X28.here hx rfl (hb hby at_68) ?_
      show Steps p.tables e below (T28.setTop (mkF m 69 #[.val (.int p1), .val (.int p2), .val (.long q3), .second, .val (.long q4), .second, .val (.long q5), .second, .val (.long q6), .second, .val (.int (4 : Int32)), .val (.long (own_pick p2 (0 : Int32) q3)), .second, .val (.long (own_pick p2 (1 : Int32) q4)), .second, .val (.long (own_pick p2 (2 : Int32) q5)), .second, .val (.long (own_pick p2 (3 : Int32) q6)), .second, .val (.ref b26), .unset] [(.int (1 : Int32)), (.ref b26)])) _
      refine XS.lload X28.here hx rfl (hb hby at_69) rfl ?_
      show Steps p.tables e below (T28.setTop (mkF m 71 #[.val (.int p1), .val (.int p2), .val (.long q3), .second, .val (.long q4), .second, .val (.long q5), .second, .val (.long q6), .second, .val (.int (4 : Int32)), .val (.long (own_pick p2 (0 : Int32) q3)), .second, .val (.long (own_pick p2 (1 : Int32) q4)), .second, .val (.long (own_pick p2 (2 : Int32) q5)), .second, .val (.long (own_pick p2 (3 : Int32) q6)), .second, .val (.ref b26), .unset] [(.long (own_pick p2 (1 : Int32) q4)), (.int (1 : Int32)), (.ref b26)])) _
      refine st30 _ ?_
      show Steps p.tables e below (T30.setTop (mkF m 72 #[.val (.int p1), .val (.int p2), .val (.long q3), .second, .val (.long q4), .second, .val (.long q5), .second, .val (.long q6), .second, .val (.int (4 : Int32)), .val (.long (own_pick p2 (0 : Int32) q3)), .second, .val (.long (own_pick p2 (1 : Int32) q4)), .second, .val (.long (own_pick p2 (2 : Int32) q5)), .second, .val (.long (own_pick p2 (3 : Int32) q6)), .second, .val (.ref b26), .unset] [])) _
      refine XS.iload X30.here hx rfl (hb hby at_72) rfl ?_
      show Steps p.tables e below (T30.setTop (mkF m 74 #[.val (.int p1), .val (.int p2), .val (.long q3), .second, .val (.long q4), .second, .val (.long q5), .second, .val (.long q6), .second, .val (.int (4 : Int32)), .val (.long (own_pick p2 (0 : Int32) q3)), .second, .val (.long (own_pick p2 (1 : Int32) q4)), .second, .val (.long (own_pick p2 (2 : Int32) q5)), .second, .val (.long (own_pick p2 (3 : Int32) q6)), .second, .val (.ref b26), .unset] [(.int (4 : Int32))])) _
      refine XS.iconst X30.here hx rfl (hb hby at_74) ?_
      show Steps p.tables e below (T30.setTop (mkF m 75 #[.val (.int p1), .val (.int p2), .val (.long q3), .second, .val (.long q4), .second, .val (.long q5), .second, .val (.long q6), .second, .val (.int (4 : Int32)), .val (.long (own_pick p2 (0 : Int32) q3)), .second, .val (.long (own_pick p2 (1 : Int32) q4)), .second, .val (.long (own_pick p2 (2 : Int32) q5)), .second, .val (.long (own_pick p2 (3 : Int32) q6)), .second, .val (.ref b26), .unset] [(.int (2 : Int32)), (.int (4 : Int32))])) _
      refine XS.icmpNo X30.here hx rfl (hb hby at_75) rfl (tlt (by decide)).2.2.2 ?_
      show Steps p.tables e below (T30.setTop (mkF m 78 #[.val (.int p1), .val (.int p2), .val (.long q3), .second, .val (.long q4), .second, .val (.long q5), .second, .val (.long q6), .second, .val (.int (4 : Int32)), .val (.long (own_pick p2 (0 : Int32) q3)), .second, .val (.long (own_pick p2 (1 : Int32) q4)), .second, .val (.long (own_pick p2 (2 : Int32) q5)), .second, .val (.long (own_pick p2 (3 : Int32) q6)), .second, .val (.ref b26), .unset] [])) _
      refine XS.aload X30.here hx rfl (hb hby at_78) rfl rfl ?_
      show Steps p.tables e below (T30.setTop (mkF m 80 #[.val (.int p1), .val (.int p2), .val (.long q3), .second, .val (.long q4), .second, .val (.long q5), .second, .val (.long q6), .second, .val (.int (4 : Int32)), .val (.long (own_pick p2 (0 : Int32) q3)), .second, .val (.long (own_pick p2 (1 : Int32) q4)), .second, .val (.long (own_pick p2 (2 : Int32) q5)), .second, .val (.long (own_pick p2 (3 : Int32) q6)), .second, .val (.ref b26), .unset] [(.ref b26)])) _
      refine XS.iconst X30.here hx rfl (hb hby at_80) ?_
      show Steps p.tables e below (T30.setTop (mkF m 81 #[.val (.int p1), .val (.int p2), .val (.long q3), .second, .val (.long q4), .second, .val (.long q5), .second, .val (.long q6), .second, .val (.int (4 : Int32)), .val (.long (own_pick p2 (0 : Int32) q3)), .second, .val (.long (own_pick p2 (1 : Int32) q4)), .second, .val (.long (own_pick p2 (2 : Int32) q5)), .second, .val (.long (own_pick p2 (3 : Int32) q6)), .second, .val (.ref b26), .unset] [(.int (2 : Int32)), (.ref b26)])) _
      refine XS.lload X30.here hx rfl (hb hby at_81) rfl ?_
      show Steps p.tables e below (T30.setTop (mkF m 83 #[.val (.int p1), .val (.int p2), .val (.long q3), .second, .val (.long q4), .second, .val (.long q5), .second, .val (.long q6), .second, .val (.int (4 : Int32)), .val (.long (own_pick p2 (0 : Int32) q3)), .second, .val (.long (own_pick p2 (1 : Int32) q4)), .second, .val (.long (own_pick p2 (2 : Int32) q5)), .second, .val (.long (own_pick p2 (3 : Int32) q6)), .second, .val (.ref b26), .unset] [(.long (own_pick p2 (2 : Int32) q5)), (.int (2 : Int32)), (.ref b26)])) _
      refine st32 _ ?_
      show Steps p.tables e below (T32.setTop (mkF m 84 #[.val (.int p1), .val (.int p2), .val (.long q3), .second, .val (.long q4), .second, .val (.long q5), .second, .val (.long q6), .second, .val (.int (4 : Int32)), .val (.long (own_pick p2 (0 : Int32) q3)), .second, .val (.long (own_pick p2 (1 : Int32) q4)), .second, .val (.long (own_pick p2 (2 : Int32) q5)), .second, .val (.long (own_pick p2 (3 : Int32) q6)), .second, .val (.ref b26), .unset] [])) _
      refine XS.iload X32.here hx rfl (hb hby at_84) rfl ?_
      show Steps p.tables e below (T32.setTop (mkF m 86 #[.val (.int p1), .val (.int p2), .val (.long q3), .second, .val (.long q4), .second, .val (.long q5), .second, .val (.long q6), .second, .val (.int (4 : Int32)), .val (.long (own_pick p2 (0 : Int32) q3)), .second, .val (.long (own_pick p2 (1 : Int32) q4)), .second, .val (.long (own_pick p2 (2 : Int32) q5)), .second, .val (.long (own_pick p2 (3 : Int32) q6)), .second, .val (.ref b26), .unset] [(.int (4 : Int32))])) _
      refine XS.iconst X32.here hx rfl (hb hby at_86) ?_
      show Steps p.tables e below (T32.setTop (mkF m 87 #[.val (.int p1), .val (.int p2), .val (.long q3), .second, .val (.long q4), .second, .val (.long q5), .second, .val (.long q6), .second, .val (.int (4 : Int32)), .val (.long (own_pick p2 (0 : Int32) q3)), .second, .val (.long (own_pick p2 (1 : Int32) q4)), .second, .val (.long (own_pick p2 (2 : Int32) q5)), .second, .val (.long (own_pick p2 (3 : Int32) q6)), .second, .val (.ref b26), .unset] [(.int (3 : Int32)), (.int (4 : Int32))])) _
      refine XS.icmpNo X32.here hx rfl (hb hby at_87) rfl (tlt (by decide)).2.2.2 ?_
      show Steps p.tables e below (T32.setTop (mkF m 90 #[.val (.int p1), .val (.int p2), .val (.long q3), .second, .val (.long q4), .second, .val (.long q5), .second, .val (.long q6), .second, .val (.int (4 : Int32)), .val (.long (own_pick p2 (0 : Int32) q3)), .second, .val (.long (own_pick p2 (1 : Int32) q4)), .second, .val (.long (own_pick p2 (2 : Int32) q5)), .second, .val (.long (own_pick p2 (3 : Int32) q6)), .second, .val (.ref b26), .unset] [])) _
      refine XS.aload X32.here hx rfl (hb hby at_90) rfl rfl ?_
      show Steps p.tables e below (T32.setTop (mkF m 92 #[.val (.int p1), .val (.int p2), .val (.long q3), .second, .val (.long q4), .second, .val (.long q5), .second, .val (.long q6), .second, .val (.int (4 : Int32)), .val (.long (own_pick p2 (0 : Int32) q3)), .second, .val (.long (own_pick p2 (1 : Int32) q4)), .second, .val (.long (own_pick p2 (2 : Int32) q5)), .second, .val (.long (own_pick p2 (3 : Int32) q6)), .second, .val (.ref b26), .unset] [(.ref b26)])) _
      refine XS.iconst X32.here hx rfl (hb hby at_92) ?_
      show Steps p.tables e below (T32.setTop (mkF m 93 #[.val (.int p1), .val (.int p2), .val (.long q3), .second, .val (.long q4), .second, .val (.long q5), .second, .val (.long q6), .second, .val (.int (4 : Int32)), .val (.long (own_pick p2 (0 : Int32) q3)), .second, .val (.long (own_pick p2 (1 : Int32) q4)), .second, .val (.long (own_pick p2 (2 : Int32) q5)), .second, .val (.long (own_pick p2 (3 : Int32) q6)), .second, .val (.ref b26), .unset] [(.int (3 : Int32)), (.ref b26)])) _
      refine XS.lload X32.here hx rfl (hb hby at_93) rfl ?_
      show Steps p.tables e below (T32.setTop (mkF m 95 #[.val (.int p1), .val (.int p2), .val (.long q3), .second, .val (.long q4), .second, .val (.long q5), .second, .val (.long q6), .second, .val (.int (4 : Int32)), .val (.long (own_pick p2 (0 : Int32) q3)), .second, .val (.long (own_pick p2 (1 : Int32) q4)), .second, .val (.long (own_pick p2 (2 : Int32) q5)), .second, .val (.long (own_pick p2 (3 : Int32) q6)), .second, .val (.ref b26), .unset] [(.long (own_pick p2 (3 : Int32) q6)), (.int (3 : Int32)), (.ref b26)])) _
      refine st34 _ ?_
      show Steps p.tables e below (T34.setTop (mkF m 96 #[.val (.int p1), .val (.int p2), .val (.long q3), .second, .val (.long q4), .second, .val (.long q5), .second, .val (.long q6), .second, .val (.int (4 : Int32)), .val (.long (own_pick p2 (0 : Int32) q3)), .second, .val (.long (own_pick p2 (1 : Int32) q4)), .second, .val (.long (own_pick p2 (2 : Int32) q5)), .second, .val (.long (own_pick p2 (3 : Int32) q6)), .second, .val (.ref b26), .unset] [])) _
      refine sg96k4 _ ?_
      show Steps p.tables e below (T34.setTop (mkF m 153 #[.val (.int p1), .val (.int p2), .val (.long q3), .second, .val (.long q4), .second, .val (.long q5), .second, .val (.long q6), .second, .val (.int (4 : Int32)), .val (.long (own_pick p2 (0 : Int32) q3)), .second, .val (.long (own_pick p2 (1 : Int32) q4)), .second, .val (.long (own_pick p2 (2 : Int32) q5)), .second, .val (.long (own_pick p2 (3 : Int32) q6)), .second, .val (.ref b26), .unset] [(.int j96_S0k4)])) _
      refine XS.istore X34.here hx rfl (hb hby at_153) rfl (l' := #[.val (.int p1), .val (.int p2), .val (.long q3), .second, .val (.long q4), .second, .val (.long q5), .second, .val (.long q6), .second, .val (.int (4 : Int32)), .val (.long (own_pick p2 (0 : Int32) q3)), .second, .val (.long (own_pick p2 (1 : Int32) q4)), .second, .val (.long (own_pick p2 (2 : Int32) q5)), .second, .val (.long (own_pick p2 (3 : Int32) q6)), .second, .val (.ref b26), .val (.int j96_S0k4)]) rfl ?_
      show Steps p.tables e below (T34.setTop (mkF m 155 #[.val (.int p1), .val (.int p2), .val (.long q3), .second, .val (.long q4), .second, .val (.long q5), .second, .val (.long q6), .second, .val (.int (4 : Int32)), .val (.long (own_pick p2 (0 : Int32) q3)), .second, .val (.long (own_pick p2 (1 : Int32) q4)), .second, .val (.long (own_pick p2 (2 : Int32) q5)), .second, .val (.long (own_pick p2 (3 : Int32) q6)), .second, .val (.ref b26), .val (.int j96_S0k4)] [])) _
      refine XS.aload X34.here hx rfl (hb hby at_155) rfl rfl ?_
      show Steps p.tables e below (T34.setTop (mkF m 157 #[.val (.int p1), .val (.int p2), .val (.long q3), .second, .val (.long q4), .second, .val (.long q5), .second, .val (.long q6), .second, .val (.int (4 : Int32)), .val (.long (own_pick p2 (0 : Int32) q3)), .second, .val (.long (own_pick p2 (1 : Int32) q4)), .second, .val (.long (own_pick p2 (2 : Int32) q5)), .second, .val (.long (own_pick p2 (3 : Int32) q6)), .second, .val (.ref b26), .val (.int j96_S0k4)] [(.ref b26)])) _
      refine st35 _ ?_
      show Steps p.tables e below (T35.setTop (mkF m 160 #[.val (.int p1), .val (.int p2), .val (.long q3), .second, .val (.long q4), .second, .val (.long q5), .second, .val (.long q6), .second, .val (.int (4 : Int32)), .val (.long (own_pick p2 (0 : Int32) q3)), .second, .val (.long (own_pick p2 (1 : Int32) q4)), .second, .val (.long (own_pick p2 (2 : Int32) q5)), .second, .val (.long (own_pick p2 (3 : Int32) q6)), .second, .val (.ref b26), .val (.int j96_S0k4)] [(.int (own_nw4 (own_pick p2 (0 : Int32) q3) (own_pick p2 (1 : Int32) q4) (own_pick p2 (2 : Int32) q5) (own_pick p2 (3 : Int32) q6)))])) _
      refine XS.iload X35.here hx rfl (hb hby at_160) rfl ?_
      show Steps p.tables e below (T35.setTop (mkF m 162 #[.val (.int p1), .val (.int p2), .val (.long q3), .second, .val (.long q4), .second, .val (.long q5), .second, .val (.long q6), .second, .val (.int (4 : Int32)), .val (.long (own_pick p2 (0 : Int32) q3)), .second, .val (.long (own_pick p2 (1 : Int32) q4)), .second, .val (.long (own_pick p2 (2 : Int32) q5)), .second, .val (.long (own_pick p2 (3 : Int32) q6)), .second, .val (.ref b26), .val (.int j96_S0k4)] [(.int j96_S0k4), (.int (own_nw4 (own_pick p2 (0 : Int32) q3) (own_pick p2 (1 : Int32) q4) (own_pick p2 (2 : Int32) q5) (own_pick p2 (3 : Int32) q6)))])) _
      refine XS.icmpNo X35.here hx rfl (hb hby at_162) rfl (teq (by rw [ej96_S0k4]; rfl)).2 ?_
      show Steps p.tables e below (T35.setTop (mkF m 165 #[.val (.int p1), .val (.int p2), .val (.long q3), .second, .val (.long q4), .second, .val (.long q5), .second, .val (.long q6), .second, .val (.int (4 : Int32)), .val (.long (own_pick p2 (0 : Int32) q3)), .second, .val (.long (own_pick p2 (1 : Int32) q4)), .second, .val (.long (own_pick p2 (2 : Int32) q5)), .second, .val (.long (own_pick p2 (3 : Int32) q6)), .second, .val (.ref b26), .val (.int j96_S0k4)] [])) _
      refine XS.iconst X35.here hx rfl (hb hby at_165) ?_
      show Steps p.tables e below (T35.setTop (mkF m 166 #[.val (.int p1), .val (.int p2), .val (.long q3), .second, .val (.long q4), .second, .val (.long q5), .second, .val (.long q6), .second, .val (.int (4 : Int32)), .val (.long (own_pick p2 (0 : Int32) q3)), .second, .val (.long (own_pick p2 (1 : Int32) q4)), .second, .val (.long (own_pick p2 (2 : Int32) q5)), .second, .val (.long (own_pick p2 (3 : Int32) q6)), .second, .val (.ref b26), .val (.int j96_S0k4)] [(.int (1 : Int32))])) _
      refine XS.goto X35.here hx rfl (pc0 := 166) (pc' := 170) rfl (hb hby at_166) (by decide) (by decide) ?_
      show Steps p.tables e below (T35.setTop (mkF m 170 #[.val (.int p1), .val (.int p2), .val (.long q3), .second, .val (.long q4), .second, .val (.long q5), .second, .val (.long q6), .second, .val (.int (4 : Int32)), .val (.long (own_pick p2 (0 : Int32) q3)), .second, .val (.long (own_pick p2 (1 : Int32) q4)), .second, .val (.long (own_pick p2 (2 : Int32) q5)), .second, .val (.long (own_pick p2 (3 : Int32) q6)), .second, .val (.ref b26), .val (.int j96_S0k4)] [(.int (1 : Int32))])) _
      exact retN X35 hx (t := .boolean) Bd.returns (by simp) (hb hby at_170) hr
    · show Q0 Z p1 p2 q3 q4 q5 q6 h0 n0 _ T35.heap _
      rw [e35]
      exact ⟨rfl, N35⟩
set_option maxRecDepth 65536 in
set_option maxHeartbeats 40000000 in
theorem comes_1 {Post : Tables → Env → Array Value → State → Outcome → State → Prop} (hpost : ∀ tb e args s v u, (limb_1_1.after args s (.returned v) u = true ∧ limb_1_2.after args s (.returned v) u = true ∧ True) → FrameEnd s (.returned v) u (Jvm.fieldLocs frame_1_writes args s ++ Jvm.arrayLocs frame_1_arrays args s ++ Jvm.staticLocs frame_1_statics s) 16 128 → Post tb e args s (.returned v) u) :
    ArmFor flags0 classFile x code maxLocals ret World_1 tables_1 room_1 Calls_1 rest_1 Pre_1 Post := by
  intro l hfl _ _ p e ha hc hk s m args below hf hA hF happ hP
  obtain ⟨hcalls, hrest, hpre⟩ := hP
  obtain ⟨-, -, -, hnamed, -, -, -, hat⟩ := (Spec.applies_iff hf).mp happ
  obtain ⟨hg, hn⟩ := and_e (Cond.before_iff.mp (show (Jvm.Cond.and given_1 narrow_1).before args s = true from hpre))
  obtain ⟨gc, g0⟩ := and_e hg
  obtain ⟨ga0, g1⟩ := and_e g0
  obtain ⟨ga1, g2⟩ := and_e g1
  obtain ⟨ga2, g3⟩ := and_e g2
  obtain ⟨ga3, g4⟩ := and_e g3
  obtain ⟨ga4, g5⟩ := and_e g4
  obtain ⟨w0, w1, w2, w3, w4, w5, rfl⟩ : ∃ w0 w1 w2 w3 w4 w5 : Value, args = #[w0, w1, w2, w3, w4, w5] := by
    have hs : args.size = 6 := by simpa [Cond.value, given_1] using gc
    obtain ⟨L⟩ := args
    match L, hs with
    | [w0, w1, w2, w3, w4, w5], _ => exact ⟨w0, w1, w2, w3, w4, w5, rfl⟩
  have hw := fun d (hd : d ∈ tables_1) => atoms_spec (ws := Jvm.Cond.code x code maxLocals ret :: tables_1) hat d (List.mem_cons_of_mem _ hd)
  have hfit : Fit s := fun {y c} hc i hi => by
    obtain ⟨ha, rfl⟩ := Array.getElem?_eq_some_iff.mp hc
    have q := List.all_eq_true.mp ((Array.all_eq_true_iff_forall_mem.mp hF) _ (Array.getElem_mem ha)) i (List.mem_range.mpr hi)
    simpa [Array.getElem?_eq_getElem hi] using q
  obtain ⟨i0, ei0⟩ := is_v ga0
  obtain rfl : w0 = (.int i0) := Option.some.inj ei0
  obtain ⟨i1, ei1⟩ := is_v ga1
  obtain rfl : w1 = (.int i1) := Option.some.inj ei1
  obtain ⟨i2, ei2⟩ := isL_v ga2
  obtain rfl : w2 = (.long i2) := Option.some.inj ei2
  obtain ⟨i3, ei3⟩ := isL_v ga3
  obtain rfl : w3 = (.long i3) := Option.some.inj ei3
  obtain ⟨i4, ei4⟩ := isL_v ga4
  obtain rfl : w4 = (.long i4) := Option.some.inj ei4
  obtain ⟨i5, ei5⟩ := isL_v g5
  obtain rfl : w5 = (.long i5) := Option.some.inj ei5
  obtain ⟨n, o, h1, h2, h3, _, L, rfl, ⟨rfl, N⟩, hq⟩ := rm0 l s _ hw tables_1 i0 i1 i2 i3 i4 i5 s.heap s.heap.size (Nat.le_refl _)  p e ha hc hk s m _ below hf ((Spec.applies_iff_loose hf).mp happ).1 ⟨rfl, State.Warmed39.refl s, rfl⟩ trivial
  refine ⟨n, _, h1, h2, h3, hpost _ _ _ _ _ _ ⟨Cond.after_iff.mpr rfl, Cond.after_iff.mpr (eq_i res_at (Term.int_eval (1)) rfl), trivial⟩ ⟨hq.1, hq.2.1, (hq.2.2.sift fun y hy => Or.inr (N y hy)).mono (by decide) (by decide)⟩⟩
theorem main_1_1 : Claimed_1_1 := comes_1 fun _ _ _ _ _ _ h hF => ⟨h.1, hF⟩
theorem main_1_2 : Claimed_1_2 := comes_1 fun _ _ _ _ _ _ h hF => ⟨h.2.1, hF⟩
end Jvm.Pilot.@@N@@
namespace Jvm.Pilot.@@N@@
open Jvm Jvm.ClassFile Sem Op Lib Jvm.Free Jvm.Stand Jvm.Pilot.@@N@@.Jvm.D
/-! MADE BY PROGRAM (witnessworld.py) out of the Statement's table words and the real class files: 11 classes; the members and pool entries that the words name. The judged class is class 1, her method 1. -/
namespace start1
open Jvm.ClassFile
def u (s : String) : CpInfo := .utf8 (stringToUtf16 s)
/-- a pool by its gaps: so many unusable entries, then the entry; so many at the end -/
def gap : Nat → List CpInfo → List CpInfo
  | 0, r => r
  | n + 1, r => .unusable :: gap n r
def poolList (es : List (Nat × CpInfo)) (last : Nat) : List CpInfo := es.foldr (fun e r => gap e.1 (e.2 :: r)) (gap last [])
def pool (es : List (Nat × CpInfo)) (last : Nat) : Array CpInfo := ⟨poolList es last⟩
def fileOf (pool : Array CpInfo) (this : Nat) (attrs : Array Attribute := #[]) (ms : Array MethodInfo := #[]) (fl : Nat := 33) (sup : Nat := 0) (ifs : Array Nat := #[]) (fds : Array FieldInfo := #[]) : ClassFile where
  minorVersion := 0
  majorVersion := 65
  constantPool := pool
  accessFlags := fl
  thisClass := this
  superClass := sup
  interfaces := ifs
  fields := fds
  methods := ms
  attributes := attrs
def plain (name : String) (sup : Option ClassId) : Class where
  name := name
  kind := .ordinary
  loader := none
  accessFlags := 33
  super := sup
  interfaces := #[]
  cf := none
  fields := #[]
  methods := #[]
  instanceTypes := #[]
  staticTypes := #[]
  resolved := #[]
  callSites := []
  init := .initialized
  statics := none
  mirror := none

def pool0 : Array CpInfo := pool [(5, u "<init>"), (0, u "()V"), (1, .class_ 10), (1, u "java/lang/Object")] 113

def k0m0 : Method := { name := "<init>", desc := "()V", sig := { parameters := [], returnType := none }, accessFlags := 1, code := none }
/-- java/lang/Object -/
def k0 : Class := { plain "java/lang/Object" none with
  accessFlags := 33
  interfaces := #[]
  cf := some (fileOf pool0 8 #[] #[{ accessFlags := 1, nameIndex := 5, descriptorIndex := 6, attributes := #[] }] 33 0 #[] #[])
  fields := #[]
  methods := #[k0m0]
  instanceTypes := #[]
  staticTypes := #[]
  resolved := Array.replicate 124 none
  statics := none }

def pool1 : Array CpInfo := pool [(2, .class_ 4), (1, u "java/lang/Object"), (0, u "<init>"), (0, u "()V"), (0, .integer 2147483647), (0, .methodref 9 10), (0, .class_ 11), (0, .nameAndType 12 13), (0, u "com/example/vestline/vestline/ProRataNoWeightPinLaw"), (0, u "pick"), (0, u "(IIJ)J"), (0, .methodref 15 16), (0, .class_ 17), (0, .nameAndType 18 19), (0, u "com/example/vestline/vestline/ProRata"), (0, u "noWeight"), (0, u "([J)Z"), (2, .long 9223372036854775807), (3, u "law"), (0, u "(IIJJJJ)Z")] 5

def k1m0 : Method := { name := "<init>", desc := "()V", sig := { parameters := [], returnType := none }, accessFlags := 1, code := none }
def k1c1 : Code := { maxStack := 4, maxLocals := 21, code := code, exceptionTable := #[], attributes := #[] }
def k1m1 : Method := { name := "law", desc := "(IIJJJJ)Z", sig := { parameters := [.int, .int, .long, .long, .long, .long], returnType := some .boolean }, accessFlags := 9, code := some k1c1 }
def k1c2 : Code := { maxStack := 4, maxLocals := 4, code := method_3_code, exceptionTable := #[], attributes := #[] }
def k1m2 : Method := { name := "pick", desc := "(IIJ)J", sig := { parameters := [.int, .int, .long], returnType := some .long }, accessFlags := 10, code := some k1c2 }
/-- com/example/vestline/vestline/ProRataNoWeightPinLaw -/
def k1 : Class := { plain "com/example/vestline/vestline/ProRataNoWeightPinLaw" (some 0) with
  accessFlags := 49
  interfaces := #[]
  cf := some (fileOf pool1 9 #[] #[{ accessFlags := 1, nameIndex := 5, descriptorIndex := 6, attributes := #[] }, { accessFlags := 9, nameIndex := 26, descriptorIndex := 27, attributes := #[] }, { accessFlags := 10, nameIndex := 12, descriptorIndex := 13, attributes := #[] }] 49 2 #[] #[])
  fields := #[]
  methods := #[k1m0, k1m1, k1m2]
  instanceTypes := #[]
  staticTypes := #[]
  resolved := Array.replicate 33 none
  statics := none }

def pool2 : Array CpInfo := pool [(2, .class_ 4), (1, u "java/lang/Object"), (0, u "<init>"), (0, u "()V"), (47, .class_ 56), (1, u "com/example/vestline/vestline/ProRata"), (19, u "noWeight"), (0, u "([J)Z")] 17

def k2m0 : Method := { name := "<init>", desc := "()V", sig := { parameters := [], returnType := none }, accessFlags := 2, code := none }
def k2c1 : Code := { maxStack := 4, maxLocals := 3, code := prog_53_method_3_code, exceptionTable := #[], attributes := #[] }
def k2m1 : Method := { name := "noWeight", desc := "([J)Z", sig := { parameters := [(.array .long)], returnType := some .boolean }, accessFlags := 8, code := some k2c1 }
/-- com/example/vestline/vestline/ProRata -/
def k2 : Class := { plain "com/example/vestline/vestline/ProRata" (some 0) with
  accessFlags := 49
  interfaces := #[]
  cf := some (fileOf pool2 54 #[] #[{ accessFlags := 2, nameIndex := 5, descriptorIndex := 6, attributes := #[] }, { accessFlags := 8, nameIndex := 76, descriptorIndex := 77, attributes := #[] }] 49 2 #[] #[])
  fields := #[]
  methods := #[k2m0, k2m1]
  instanceTypes := #[]
  staticTypes := #[]
  resolved := Array.replicate 95 none
  statics := none }

def pool3 : Array CpInfo := pool [(1, u "java/lang/Cloneable"), (0, .class_ 1), (0, u "java/lang/Object"), (0, .class_ 3)] 3

/-- java/lang/Cloneable -/
def k3 : Class := { plain "java/lang/Cloneable" (some 0) with
  accessFlags := 1537
  interfaces := #[]
  cf := some (fileOf pool3 2 #[] #[] 1537 4 #[] #[])
  fields := #[]
  methods := #[]
  instanceTypes := #[]
  staticTypes := #[]
  resolved := Array.replicate 8 none
  statics := none }

def pool4 : Array CpInfo := pool [(1, u "java/io/Serializable"), (0, .class_ 1), (0, u "java/lang/Object"), (0, .class_ 3)] 3

/-- java/io/Serializable -/
def k4 : Class := { plain "java/io/Serializable" (some 0) with
  accessFlags := 1537
  interfaces := #[]
  cf := some (fileOf pool4 2 #[] #[] 1537 4 #[] #[])
  fields := #[]
  methods := #[]
  instanceTypes := #[]
  staticTypes := #[]
  resolved := Array.replicate 8 none
  statics := none }

/-- the primitive byte -/
def k5 : Class := { plain "byte" none with kind := .primitive 'B', accessFlags := 0x411 }
/-- [B -/
def k6 : Class := { plain "[B" (some 0) with kind := .array 5 .byte, interfaces := #[3, 4], accessFlags := 1041 }

/-- the primitive int -/
def k7 : Class := { plain "int" none with kind := .primitive 'I', accessFlags := 0x411 }
/-- [I -/
def k8 : Class := { plain "[I" (some 0) with kind := .array 7 .int, interfaces := #[3, 4], accessFlags := 1041 }

/-- the primitive long -/
def k9 : Class := { plain "long" none with kind := .primitive 'J', accessFlags := 0x411 }
/-- [J -/
def k10 : Class := { plain "[J" (some 0) with kind := .array 9 .long, interfaces := #[3, 4], accessFlags := 1041 }

def heap : Heap := #[]
def classes : Array Class := #[k0, k1, k2, k3, k4, k5, k6, k7, k8, k9, k10]
def interned : List (Array UInt16 × Addr) := []
def slotsUsed : Nat := 0
def theMethod : MethodId := ⟨1, 1⟩
def args0 : Array Value := #[.int 3, .int 2, .long 7, .long 1, .long 0, .long 9]
def aboutOver (below : List Frame) : State where
  vm := { classes := classes, interned := interned.toArray }
  heap := heap
  slotsUsed := slotsUsed
  threads := #[{ frames := .invoking theMethod args0 :: below }]
def below0 : List Frame := [.native { method := ⟨0, 0⟩, args := #[] }]
def about1 : State := aboutOver below0
def p0 : Program := .bare "" "" ""
def e0 : Env := launch0.env 0 0 0
theorem w_frames : about1.frames = Frame.invoking theMethod args0 :: below0 := rfl
set_option maxRecDepth 65536 in
theorem w_args : argsFit about1.vm theMethod args0 = true := by decide +kernel
set_option maxRecDepth 65536 in
theorem w_heap : heapFits about1 = true := by decide +kernel
set_option maxRecDepth 65536 in
theorem w_runnable : about1.curStatus? = some .runnable := by decide +kernel
set_option maxRecDepth 65536 in
theorem w_alone : about1.alone = true := by decide +kernel
set_option maxRecDepth 65536 in
theorem w_named : about1.methodNamed? x = some theMethod := by decide +kernel
set_option maxRecDepth 65536 in
theorem w_hears : about1.hears theMethod below0 = true := by decide +kernel
set_option maxRecDepth 65536 in
theorem w_ripe : about1.ripe theMethod args0 below0 = true := by decide +kernel
theorem w_running : about1.status = .running := rfl
set_option maxRecDepth 65536 in
theorem w_room : about1.hasRoom e0.platform room_1 = true :=
  launch0.hasRoom_least _ room_1 (by decide +kernel) (by decide +kernel) (by decide +kernel) (by decide +kernel) (by decide +kernel) (by decide +kernel)
theorem allAtoms_all (ts : List Jvm.Cond) (a : Array Jvm.Value) (st : Jvm.State) : (allAtoms ts).before a st = ts.all (fun c => c.before a st) := by
  induction ts with
  | nil => rfl
  | cons c t ih =>
    show (Jvm.Cond.and c (allAtoms t)).before a st = _
    rw [Jvm.Cond.before_and, ih, List.all_cons]
def words1 : List Jvm.Cond := Jvm.Cond.code x code maxLocals ret :: tables_1
/-- a 'code' word, met by the world's own term for the bytes: nothing is compared byte by byte -/
theorem code_word {y : MethodName} {bytes : ByteArray} {mx : Nat} {rt : Option FieldType} {a : Array Value} {s : State} {m : MethodId} {meth : Method} {c : Code} (h1 : s.methodNamed? y = some m) (h2 : s.vm.method? m = some meth) (h3 : meth.code = some c) (h4 : c.code = bytes)
    (h5 : (c.maxLocals == mx && c.exceptionTable.isEmpty && decide (c.maxStack ≤ mostOperands) && decide (meth.sig.returnType = rt) && !meth.locks && decide (parseMethodDescriptor y.desc = some meth.sig)) = true) : (Jvm.Cond.code y bytes mx rt).before a s = true := by
  simp only [Bool.and_eq_true, beq_iff_eq, Bool.not_eq_true', decide_eq_true_eq] at h5
  obtain ⟨⟨⟨⟨⟨g1, g2⟩, g3⟩, g4⟩, g5⟩, g6⟩ := h5
  simp [Cond.before, Cond.holds, Cond.value, h1, h2, h3, h4, g1, g2, g3, g4, g5, g6]
def isCode : Jvm.Cond → Bool
  | .code _ _ _ _ => true
  | _ => false
theorem all_split {L : List Jvm.Cond} {P : Jvm.Cond → Bool} (h1 : L.all (fun c => isCode c || P c) = true) (h2 : ∀ c ∈ L.filter isCode, P c = true) : L.all P = true := by
  refine List.all_eq_true.mpr fun c hc => ?_
  have h := List.all_eq_true.mp h1 c hc
  rcases Bool.eq_false_or_eq_true (isCode c) with hi | hi
  · exact h2 c (List.mem_filter.mpr ⟨hc, hi⟩)
  · simpa [hi] using h
set_option maxRecDepth 65536 in
theorem w_c0 : (Jvm.Cond.code x code maxLocals ret).before args0 about1 = true := code_word (m := ⟨1, 1⟩) (meth := k1m1) (c := k1c1) (by decide +kernel) rfl rfl rfl (by decide +kernel)
set_option maxRecDepth 65536 in
theorem w_c1 : (Jvm.Cond.code ({ cls := "com/example/vestline/vestline/ProRataNoWeightPinLaw", name := "pick", desc := "(IIJ)J" } : Jvm.MethodName) method_3_code (4 : Nat) (Option.some Jvm.ClassFile.FieldType.long)).before args0 about1 = true := code_word (m := ⟨1, 2⟩) (meth := k1m2) (c := k1c2) (by decide +kernel) rfl rfl rfl (by decide +kernel)
set_option maxRecDepth 65536 in
theorem w_c2 : (Jvm.Cond.code ({ cls := "com/example/vestline/vestline/ProRata", name := "noWeight", desc := "([J)Z" } : Jvm.MethodName) prog_53_method_3_code (3 : Nat) (Option.some Jvm.ClassFile.FieldType.boolean)).before args0 about1 = true := code_word (m := ⟨2, 1⟩) (meth := k2m1) (c := k2c1) (by decide +kernel) rfl rfl rfl (by decide +kernel)
def codes1 : List Jvm.Cond := [Jvm.Cond.code x code maxLocals ret, Jvm.Cond.code ({ cls := "com/example/vestline/vestline/ProRataNoWeightPinLaw", name := "pick", desc := "(IIJ)J" } : Jvm.MethodName) method_3_code (4 : Nat) (Option.some Jvm.ClassFile.FieldType.long), Jvm.Cond.code ({ cls := "com/example/vestline/vestline/ProRata", name := "noWeight", desc := "([J)Z" } : Jvm.MethodName) prog_53_method_3_code (3 : Nat) (Option.some Jvm.ClassFile.FieldType.boolean)]
set_option maxRecDepth 65536 in
theorem codes_eq : words1.filter isCode = codes1 := rfl
theorem w_codes : ∀ c ∈ words1.filter isCode, c.before args0 about1 = true := by
  rw [codes_eq]
  intro c hc
  simp only [codes1, List.mem_cons, List.not_mem_nil, or_false] at hc
  rcases hc with rfl | rfl | rfl
  · exact w_c0
  · exact w_c1
  · exact w_c2
set_option maxRecDepth 65536 in
theorem w_t1 : words1.all (fun c => isCode c || c.before args0 about1) = true := by decide +kernel
theorem w_tables : (allAtoms (Jvm.Cond.code x code maxLocals ret :: tables_1)).before args0 about1 = true := by
  rw [allAtoms_all]
  show words1.all (fun c => c.before args0 about1) = true
  refine all_split ?_ w_codes
  rw [w_t1]
set_option maxRecDepth 65536 in
theorem w_case : (Jvm.Cond.and given_1 narrow_1).before args0 about1 = true := by decide +kernel
theorem w_applies : (headSpec (Jvm.Cond.code x code maxLocals ret :: tables_1) room_1).applies x e0.platform about1 = true :=
  (Spec.applies_iff w_frames).mpr ⟨w_running, w_runnable, w_alone, w_named, w_hears, w_ripe, w_room, w_tables⟩
theorem atStart : AtStart classFile x code maxLocals ret World_1 tables_1 room_1 Calls_1 rest_1 Pre_1 launch0 p0 e0 about1 theMethod args0 below0 :=
  ⟨lists_1, trivial, launch0.admits_env _ _ _, launch0.least_env, fairChoices_fair.cas, fairChoices_fair.clock, w_frames, w_args, w_heap, w_applies, trivial, trivial, w_case⟩
end start1
theorem witness_1 : WitnessClaimed_1 := ⟨start1.p0, start1.e0, start1.about1, start1.theMethod, start1.args0, start1.below0, start1.atStart⟩
end Jvm.Pilot.@@N@@
