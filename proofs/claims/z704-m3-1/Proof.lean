import JvmDerived
import JvmDerived.Pilot.@@N@@Statement
import JvmDerived.Pilot.@@N@@Code
set_option linter.unusedVariables false
set_option linter.unusedSimpArgs false
@@BLOCK:NumsL.lean.txt@@
namespace Jvm.RoadKit
open Sem ClassFile Op Lib Jvm.Stand Jvm.Free Jvm.LawKit
section New
variable {p : Program} {l : Launch} {e : Env} {R : Room} {s : State} {m : MethodId} {args : Array Value} {below : List Frame} {meth : Method} {c : Code} {T : State} {locs : List Loc} {cells slots : Nat}
theorem retI (X : Stand p l e R s m args below meth c T locs cells slots) (hx : p.tables.exec = Jvm.exec) {pc : Nat} {Ls : Array Slot} {z : Int32} {rest : List Value} (hret : meth.sig.returnType = some .int) (hd : decode c.code pc = .ok (.ireturn, 1)) {fs : List Frame}
    (hl : ∀ (f : JFrame) (acts : List Action), f.method = m → f.locked = none → f.entered = [] → (doReturn e (T.setTop f) acts (some (.int z))).1 = T.setFrames fs) : Steps p.tables e below (T.setTop (mkF m pc Ls (.int z :: rest))) (T.setFrames fs) := by
  have hm' : T.vm.method? m = some meth := X.method'
  have hn : narrow .int (.int z) = .int z := rfl
  show Steps p.tables e below (T.setTop { method := m, pc := pc, locals := Ls, stack := _ :: rest, locked := none }) _
  jvm_step X.here [X.here.top, hx, hd, hm', hret, hn]
  first | (intro acts; rw [hl _ acts rfl rfl rfl]) | rw [hl _ _ rfl rfl rfl]
  exact Steps.refl _
end New
end Jvm.RoadKit
namespace Jvm.Pilot.@@N@@
open Jvm Jvm.ClassFile Sem Op Lib Jvm.Free Jvm.Stand Jvm.LawKit Jvm.RoadKit Bundle Jvm.Pilot.@@N@@.Jvm.D
theorem d2_0 : decode jdk_30_method_1_code 0 = .ok (.aload_n 0, 1) := by decide +kernel
theorem d2_1 : decode jdk_30_method_1_code 1 = .ok (.invokespecial 1, 3) := by decide +kernel
theorem d2_4 : decode jdk_30_method_1_code 4 = .ok (.return_, 1) := by decide +kernel
theorem pn2 : plainName "java/lang/Record" = true := by first | (simp [plainName, overriddenIn]; done) | decide +kernel
theorem ef2 (m : MethodId) (a1 : Addr) : entryFrame m #[(.ref a1)] 1 = mkF m 0 #[.val (.ref a1)] [] := by first | (simp [entryFrame, mkF, argsToLocals, Value.category]; done) | rfl
def Q2 (Z : State) (a1 : Addr) (h0 : Heap) (n0 : Nat) (v : Option Value) (h : Heap) (L : List Loc) : Prop := v = none ∧ Fr n0 L ∧ h = h0
set_option maxRecDepth 65536 in
set_option maxHeartbeats 40000000 in
theorem rm2 (l : Launch) (Z : State) (a0 : Array Value) (hw : ∀ d ∈ tables_1, d.before a0 Z = true) (ws : List Jvm.Cond) (a1 : Addr) (h0 : Heap) (n0 : Nat) (Z0 : n0 ≤ h0.size) :
    MetFree l (⟨"java/lang/Record", "<init>", "()V"⟩ : MethodName) (head1 (Jvm.Cond.code (⟨"java/lang/Record", "<init>", "()V"⟩ : MethodName) jdk_30_method_1_code 1 none :: ws) ({ frames := 1, cells := 0, slots := 0, locals := 12 } : Room)) (fun a U => a = #[(.ref a1)] ∧ Z.Warmed39 U.vm ∧ U.heap = h0) (fun _ _ _ _ _ => True) (fun _ U o U' => ∃ v L, o = .returned v ∧ Q2 Z a1 h0 n0 v U'.heap L ∧ FrameEnd U o U' L ({ frames := 1, cells := 0, slots := 0, locals := 12 } : Room).cells ({ frames := 1, cells := 0, slots := 0, locals := 12 } : Room).slots) := by
  refine MetFree.of_bodySF (plainFor_of_name pn2) hisR ?_
  intro p e s m args below meth c s₁ Bd hml0 hP hK
  obtain ⟨rfl, hZ, hh⟩ := hP
  have hx := Bd.exec
  have hby := Bd.bytes
  have hml : c.maxLocals = 1 := hml0
  have hown : s.vm.findClass "java/lang/Record" = some m.cls := findClass_of_methodNamed Bd.named
  have hnm := (name_of_methodNamed Bd.named Bd.method).1
  have X0 : Stand p l e ({ frames := 1, cells := 0, slots := 0, locals := 12 } : Room) s m #[(.ref a1)] below meth c s₁ [] 0 0 := Stand.of_body Bd
  have e0 : s₁.heap = h0 := by rw [← hh, Bd.state]; rfl
  have N0 := Fr.nil n0
  have pre0 : ∀ t, Steps p.tables e below (s₁.setTop (mkF m 0 #[.val (.ref a1)] [])) t → Steps p.tables e below (s₁.setTop (entryFrame m #[(.ref a1)] 1)) t := fun t k => castTop (ef2 m a1) k
  obtain ⟨T1, X1, e1, st1⟩ := initO X0 hx hZ hown (hw _ (List.mem_of_getElem? (i := 13) rfl)) (hw _ (List.mem_of_getElem? (i := 14) rfl)) (hw _ (List.mem_of_getElem? (i := 15) rfl)) e0 (g := (mkF m 1 #[.val (.ref a1)] [(.ref a1)])) rfl (by rw [hml]; rfl) rfl (hb hby d2_1) (by decide) (W := 0) (by show 2 * 0 + _ ≤ _; exact Nat.le_of_eq rfl) (by decide)
  obtain ⟨fs, hr, hrun, hended, hW, hsame⟩ := X1.leave (v := none) (fun _ => rfl)
  refine ⟨_, _, pre0 _ ?_, hrun, hended, _, _, rfl, ?_, ⟨_, rfl⟩, hW, hsame.mono (by decide) (by decide)⟩
  · show Steps p.tables e below (s₁.setTop (mkF m 0 #[.val (.ref a1)] [])) _
    refine XS.aloadN X0.here hx rfl (hb hby d2_0) rfl rfl ?_
    show Steps p.tables e below (s₁.setTop (mkF m 1 #[.val (.ref a1)] [(.ref a1)])) _
    refine st1 _ ?_
    show Steps p.tables e below (T1.setTop (mkF m 4 #[.val (.ref a1)] [])) _
    exact X1.returnOut hx Bd.returns (hb hby d2_4) hr
  · show Q2 Z a1 h0 n0 _ T1.heap _
    rw [e1]
    exact ⟨rfl, N0, rfl⟩
theorem d1_0 : decode prog_41_method_1_code 0 = .ok (.aload_n 0, 1) := by decide +kernel
theorem d1_1 : decode prog_41_method_1_code 1 = .ok (.invokespecial 1, 3) := by decide +kernel
theorem d1_4 : decode prog_41_method_1_code 4 = .ok (.aload_n 0, 1) := by decide +kernel
theorem d1_5 : decode prog_41_method_1_code 5 = .ok (.lload_n 1, 1) := by decide +kernel
theorem d1_6 : decode prog_41_method_1_code 6 = .ok (.putfield 7, 3) := by decide +kernel
theorem d1_9 : decode prog_41_method_1_code 9 = .ok (.aload_n 0, 1) := by decide +kernel
theorem d1_10 : decode prog_41_method_1_code 10 = .ok (.lload_n 3, 1) := by decide +kernel
theorem d1_11 : decode prog_41_method_1_code 11 = .ok (.putfield 13, 3) := by decide +kernel
theorem d1_14 : decode prog_41_method_1_code 14 = .ok (.aload_n 0, 1) := by decide +kernel
theorem d1_15 : decode prog_41_method_1_code 15 = .ok (.lload 5, 2) := by decide +kernel
theorem d1_17 : decode prog_41_method_1_code 17 = .ok (.putfield 16, 3) := by decide +kernel
theorem d1_20 : decode prog_41_method_1_code 20 = .ok (.return_, 1) := by decide +kernel
theorem pn1 : plainName "com/example/larder/larder/http/ByteRange" = true := by first | (simp [plainName, overriddenIn]; done) | decide +kernel
theorem pd1_0 : parseMethodDescriptor "()V" = some ⟨[], none⟩ := by decide +kernel
theorem ef1 (m : MethodId) (a1 : Addr) (q2 : Int64) (q3 : Int64) (q4 : Int64) : entryFrame m #[(.ref a1), (.long q2), (.long q3), (.long q4)] 7 = mkF m 0 #[.val (.ref a1), .val (.long q2), .second, .val (.long q3), .second, .val (.long q4), .second] [] := by first | (simp [entryFrame, mkF, argsToLocals, Value.category]; done) | rfl
def Q1 (Z : State) (a1 : Addr) (q2 : Int64) (q3 : Int64) (q4 : Int64) (h0 : Heap) (n0 : Nat) (v : Option Value) (h : Heap) (L : List Loc) : Prop := v = none ∧ Fr n0 L ∧ Keep h0 h [a1] ∧ Exa Z h a1 "com/example/larder/larder/http/ByteRange" ∧ Fld Z h a1 "com/example/larder/larder/http/ByteRange" "first" "J" (.long q2) ∧ Fld Z h a1 "com/example/larder/larder/http/ByteRange" "last" "J" (.long q3) ∧ Fld Z h a1 "com/example/larder/larder/http/ByteRange" "size" "J" (.long q4)
set_option maxRecDepth 65536 in
set_option maxHeartbeats 40000000 in
theorem rm1 (l : Launch) (Z : State) (a0 : Array Value) (hw : ∀ d ∈ tables_1, d.before a0 Z = true) (ws : List Jvm.Cond) (a1 : Addr) (q2 : Int64) (q3 : Int64) (q4 : Int64) (h0 : Heap) (n0 : Nat) (Z0 : n0 ≤ h0.size) (E1 : Exa Z h0 a1 "com/example/larder/larder/http/ByteRange") (F_first : Fld Z h0 a1 "com/example/larder/larder/http/ByteRange" "first" "J" (.long (0 : Int64))) (F_last : Fld Z h0 a1 "com/example/larder/larder/http/ByteRange" "last" "J" (.long (0 : Int64))) (F_size : Fld Z h0 a1 "com/example/larder/larder/http/ByteRange" "size" "J" (.long (0 : Int64))) (g1 : n0 ≤ a1) :
    MetFree l (⟨"com/example/larder/larder/http/ByteRange", "<init>", "(JJJ)V"⟩ : MethodName) (head1 (Jvm.Cond.code (⟨"com/example/larder/larder/http/ByteRange", "<init>", "(JJJ)V"⟩ : MethodName) prog_41_method_1_code 7 none :: ws) ({ frames := 2, cells := 0, slots := 0, locals := 24 } : Room)) (fun a U => a = #[(.ref a1), (.long q2), (.long q3), (.long q4)] ∧ Z.Warmed39 U.vm ∧ U.heap = h0) (fun _ _ _ _ _ => True) (fun _ U o U' => ∃ v L, o = .returned v ∧ Q1 Z a1 q2 q3 q4 h0 n0 v U'.heap L ∧ FrameEnd U o U' L ({ frames := 2, cells := 0, slots := 0, locals := 24 } : Room).cells ({ frames := 2, cells := 0, slots := 0, locals := 24 } : Room).slots) := by
  refine MetFree.of_bodySF (plainFor_of_name pn1) hisR ?_
  intro p e s m args below meth c s₁ Bd hml0 hP hK
  obtain ⟨rfl, hZ, hh⟩ := hP
  have hx := Bd.exec
  have hby := Bd.bytes
  have hml : c.maxLocals = 7 := hml0
  have hown : s.vm.findClass "com/example/larder/larder/http/ByteRange" = some m.cls := findClass_of_methodNamed Bd.named
  have hnm := (name_of_methodNamed Bd.named Bd.method).1
  have X0 : Stand p l e ({ frames := 2, cells := 0, slots := 0, locals := 24 } : Room) s m #[(.ref a1), (.long q2), (.long q3), (.long q4)] below meth c s₁ [] 0 0 := Stand.of_body Bd
  have e0 : s₁.heap = h0 := by rw [← hh, Bd.state]; rfl
  have N0 := Fr.nil n0
  have pre0 : ∀ t, Steps p.tables e below (s₁.setTop (mkF m 0 #[.val (.ref a1), .val (.long q2), .second, .val (.long q3), .second, .val (.long q4), .second] [])) t → Steps p.tables e below (s₁.setTop (entryFrame m #[(.ref a1), (.long q2), (.long q3), (.long q4)] 7)) t := fun t k => castTop (ef1 m a1 q2 q3 q4) k
  obtain ⟨_, _, ⟨T1, L1, k1, n1⟩, -, X1, ⟨Lc1, hQ1, l1, y1, z1⟩, st1⟩ := X0.specialBack hx (y := (⟨"java/lang/Record", "<init>", "()V"⟩ : MethodName)) rfl hown (mvT hZ (hw _ (List.mem_of_getElem? (i := 8) rfl))) (mvT hZ (hw _ (List.mem_of_getElem? (i := 9) rfl))) (mvT hZ (hw _ (List.mem_of_getElem? (i := 12) rfl))) (by decide) (backOf (W := 0) (rm2 l Z a0 hw [] a1 h0 n0 Z0 ) hZ (hw _ (List.mem_of_getElem? (i := 12) rfl)) (hw _ (List.mem_of_getElem? (i := 11) rfl)) (by decide) (by decide)) (g := (mkF m 1 #[.val (.ref a1), .val (.long q2), .second, .val (.long q3), .second, .val (.long q4), .second] [(.ref a1)])) rfl (by rw [hml]; rfl) (Steps.refl _) (a := a1) (argsL := []) (rest := []) (lenOf pd1_0 rfl) rfl (by show 2 * 0 + _ ≤ _; exact Nat.le_of_eq rfl) (hb hby d1_1) (fun _ _ => ⟨rfl, e0, (by decide : 0 + 0 ≤ _), (by decide : 0 + 0 ≤ _)⟩)
  dsimp only [Pt.U, Pt.locs, Pt.cells, Pt.slots] at X1 l1 y1 z1 st1 hQ1
  subst l1 y1 z1
  obtain ⟨rfl, N1q, e1⟩ := hQ1
  have N1 := Fr.app N0 N1q
  obtain ⟨T2, h2, X2, e2, W2, st2⟩ := putF X1 hx hZ hown (host := "") (Or.inl (hw _ (List.mem_of_getElem? (i := 16) rfl))) Via.refl e1 F_first E1 (Or.inr ⟨(hw _ (List.mem_of_getElem? (i := 17) rfl)), rfl, hnm⟩) (hw _ (List.mem_of_getElem? (i := 3) rfl)) (ty := .long) (by decide) rfl rfl (g := (mkF m 6 #[.val (.ref a1), .val (.long q2), .second, .val (.long q3), .second, .val (.long q4), .second] [(.long q2), (.ref a1)])) rfl rfl (hb hby d1_6)
  have f2_E_a1 := E1.wr W2
  have f2_F_a1_first := F_first.same W2
  have f2_F_a1_last := F_last.other W2 (Or.inr (slot_ne (Or.inr (hw _ (List.mem_of_getElem? (i := 19) rfl))) (Or.inr (hw _ (List.mem_of_getElem? (i := 17) rfl))) (by decide) (t := .long) (t' := .long) (by decide) (by decide)))
  have f2_F_a1_size := F_size.other W2 (Or.inr (slot_ne (Or.inr (hw _ (List.mem_of_getElem? (i := 21) rfl))) (Or.inr (hw _ (List.mem_of_getElem? (i := 17) rfl))) (by decide) (t := .long) (t' := .long) (by decide) (by decide)))
  have N2 := Fr.snoc X2 N1 g1
  have K2 := (Keep.refl h0 [a1]).wr W2 (Or.inl (List.mem_of_getElem? (i := 0) rfl))
  have Z2 : n0 ≤ h2.size := Nat.le_trans Z0 (Keep.of_wr W2).1
  obtain ⟨T3, h3, X3, e3, W3, st3⟩ := putF X2 hx hZ hown (host := "") (Or.inl (hw _ (List.mem_of_getElem? (i := 18) rfl))) Via.refl e2 f2_F_a1_last f2_E_a1 (Or.inr ⟨(hw _ (List.mem_of_getElem? (i := 19) rfl)), rfl, hnm⟩) (hw _ (List.mem_of_getElem? (i := 3) rfl)) (ty := .long) (by decide) rfl rfl (g := (mkF m 11 #[.val (.ref a1), .val (.long q2), .second, .val (.long q3), .second, .val (.long q4), .second] [(.long q3), (.ref a1)])) rfl rfl (hb hby d1_11)
  have f3_E_a1 := f2_E_a1.wr W3
  have f3_F_a1_first := f2_F_a1_first.other W3 (Or.inr (slot_ne (Or.inr (hw _ (List.mem_of_getElem? (i := 17) rfl))) (Or.inr (hw _ (List.mem_of_getElem? (i := 19) rfl))) (by decide) (t := .long) (t' := .long) (by decide) (by decide)))
  have f3_F_a1_last := f2_F_a1_last.same W3
  have f3_F_a1_size := f2_F_a1_size.other W3 (Or.inr (slot_ne (Or.inr (hw _ (List.mem_of_getElem? (i := 21) rfl))) (Or.inr (hw _ (List.mem_of_getElem? (i := 19) rfl))) (by decide) (t := .long) (t' := .long) (by decide) (by decide)))
  have N3 := Fr.snoc X3 N2 g1
  have K3 := K2.wr W3 (Or.inl (List.mem_of_getElem? (i := 0) rfl))
  have Z3 : n0 ≤ h3.size := Nat.le_trans Z2 (Keep.of_wr W3).1
  obtain ⟨T4, h4, X4, e4, W4, st4⟩ := putF X3 hx hZ hown (host := "") (Or.inl (hw _ (List.mem_of_getElem? (i := 20) rfl))) Via.refl e3 f3_F_a1_size f3_E_a1 (Or.inr ⟨(hw _ (List.mem_of_getElem? (i := 21) rfl)), rfl, hnm⟩) (hw _ (List.mem_of_getElem? (i := 3) rfl)) (ty := .long) (by decide) rfl rfl (g := (mkF m 17 #[.val (.ref a1), .val (.long q2), .second, .val (.long q3), .second, .val (.long q4), .second] [(.long q4), (.ref a1)])) rfl rfl (hb hby d1_17)
  have f4_E_a1 := f3_E_a1.wr W4
  have f4_F_a1_first := f3_F_a1_first.other W4 (Or.inr (slot_ne (Or.inr (hw _ (List.mem_of_getElem? (i := 17) rfl))) (Or.inr (hw _ (List.mem_of_getElem? (i := 21) rfl))) (by decide) (t := .long) (t' := .long) (by decide) (by decide)))
  have f4_F_a1_last := f3_F_a1_last.other W4 (Or.inr (slot_ne (Or.inr (hw _ (List.mem_of_getElem? (i := 19) rfl))) (Or.inr (hw _ (List.mem_of_getElem? (i := 21) rfl))) (by decide) (t := .long) (t' := .long) (by decide) (by decide)))
  have f4_F_a1_size := f3_F_a1_size.same W4
  have N4 := Fr.snoc X4 N3 g1
  have K4 := K3.wr W4 (Or.inl (List.mem_of_getElem? (i := 0) rfl))
  have Z4 : n0 ≤ h4.size := Nat.le_trans Z3 (Keep.of_wr W4).1
  obtain ⟨fs, hr, hrun, hended, hW, hsame⟩ := X4.leave (v := none) (fun _ => rfl)
  refine ⟨_, _, pre0 _ ?_, hrun, hended, _, _, rfl, ?_, ⟨_, rfl⟩, hW, hsame.mono (by decide) (by decide)⟩
  · show Steps p.tables e below (s₁.setTop (mkF m 0 #[.val (.ref a1), .val (.long q2), .second, .val (.long q3), .second, .val (.long q4), .second] [])) _
    refine XS.aloadN X0.here hx rfl (hb hby d1_0) rfl rfl ?_
    show Steps p.tables e below (s₁.setTop (mkF m 1 #[.val (.ref a1), .val (.long q2), .second, .val (.long q3), .second, .val (.long q4), .second] [(.ref a1)])) _
    refine st1.trans ?_
    show Steps p.tables e below (T1.setTop (mkF m 4 #[.val (.ref a1), .val (.long q2), .second, .val (.long q3), .second, .val (.long q4), .second] [])) _
    refine XS.aloadN X1.here hx rfl (hb hby d1_4) rfl rfl ?_
    show Steps p.tables e below (T1.setTop (mkF m 5 #[.val (.ref a1), .val (.long q2), .second, .val (.long q3), .second, .val (.long q4), .second] [(.ref a1)])) _
    refine XS.lloadN X1.here hx rfl (hb hby d1_5) rfl ?_
    show Steps p.tables e below (T1.setTop (mkF m 6 #[.val (.ref a1), .val (.long q2), .second, .val (.long q3), .second, .val (.long q4), .second] [(.long q2), (.ref a1)])) _
    refine st2 _ ?_
    show Steps p.tables e below (T2.setTop (mkF m 9 #[.val (.ref a1), .val (.long q2), .second, .val (.long q3), .second, .val (.long q4), .second] [])) _
    refine XS.aloadN X2.here hx rfl (hb hby d1_9) rfl rfl ?_
    show Steps p.tables e below (T2.setTop (mkF m 10 #[.val (.ref a1), .val (.long q2), .second, .val (.long q3), .second, .val (.long q4), .second] [(.ref a1)])) _
    refine XS.lloadN X2.here hx rfl (hb hby d1_10) rfl ?_
    show Steps p.tables e below (T2.setTop (mkF m 11 #[.val (.ref a1), .val (.long q2), .second, .val (.long q3), .second, .val (.long q4), .second] [(.long q3), (.ref a1)])) _
    refine st3 _ ?_
    show Steps p.tables e below (T3.setTop (mkF m 14 #[.val (.ref a1), .val (.long q2), .second, .val (.long q3), .second, .val (.long q4), .second] [])) _
    refine XS.aloadN X3.here hx rfl (hb hby d1_14) rfl rfl ?_
    show Steps p.tables e below (T3.setTop (mkF m 15 #[.val (.ref a1), .val (.long q2), .second, .val (.long q3), .second, .val (.long q4), .second] [(.ref a1)])) _
    refine XS.lload X3.here hx rfl (hb hby d1_15) rfl ?_
    show Steps p.tables e below (T3.setTop (mkF m 17 #[.val (.ref a1), .val (.long q2), .second, .val (.long q3), .second, .val (.long q4), .second] [(.long q4), (.ref a1)])) _
    refine st4 _ ?_
    show Steps p.tables e below (T4.setTop (mkF m 20 #[.val (.ref a1), .val (.long q2), .second, .val (.long q3), .second, .val (.long q4), .second] [])) _
    exact X4.returnOut hx Bd.returns (hb hby d1_20) hr
  · show Q1 Z a1 q2 q3 q4 h0 n0 _ T4.heap _
    rw [e4]
    exact ⟨rfl, N4, K4, f4_E_a1, f4_F_a1_first, f4_F_a1_last, f4_F_a1_size⟩
theorem d4_0 : decode prog_41_method_4_code 0 = .ok (.aload_n 0, 1) := by decide +kernel
theorem d4_1 : decode prog_41_method_4_code 1 = .ok (.getfield 13, 3) := by decide +kernel
theorem d4_4 : decode prog_41_method_4_code 4 = .ok (.aload_n 0, 1) := by decide +kernel
theorem d4_5 : decode prog_41_method_4_code 5 = .ok (.getfield 7, 3) := by decide +kernel
theorem d4_8 : decode prog_41_method_4_code 8 = .ok (.lsub, 1) := by decide +kernel
theorem d4_9 : decode prog_41_method_4_code 9 = .ok (.lconst 1, 1) := by decide +kernel
theorem d4_10 : decode prog_41_method_4_code 10 = .ok (.ladd, 1) := by decide +kernel
theorem d4_11 : decode prog_41_method_4_code 11 = .ok (.lreturn, 1) := by decide +kernel
theorem pn4 : plainName "com/example/larder/larder/http/ByteRange" = true := by first | (simp [plainName, overriddenIn]; done) | decide +kernel
theorem ef4 (m : MethodId) (a1 : Addr) : entryFrame m #[(.ref a1)] 1 = mkF m 0 #[.val (.ref a1)] [] := by first | (simp [entryFrame, mkF, argsToLocals, Value.category]; done) | rfl
def own_len (w_last_a1 : Int64) (w_first_a1 : Int64) : Int64 := ((w_last_a1 - w_first_a1) + (1 : Int64))
def Q4 (Z : State) (a1 : Addr) (w_last_a1 : Int64) (w_first_a1 : Int64) (h0 : Heap) (n0 : Nat) (v : Option Value) (h : Heap) (L : List Loc) : Prop := v = some (.long (own_len w_last_a1 w_first_a1)) ∧ Fr n0 L ∧ h = h0
set_option maxRecDepth 65536 in
set_option maxHeartbeats 40000000 in
theorem rm4 (l : Launch) (Z : State) (a0 : Array Value) (hw : ∀ d ∈ tables_1, d.before a0 Z = true) (ws : List Jvm.Cond) (a1 : Addr) (w_last_a1 : Int64) (w_first_a1 : Int64) (h0 : Heap) (n0 : Nat) (Z0 : n0 ≤ h0.size) (F_last_a1 : Fld Z h0 a1 "com/example/larder/larder/http/ByteRange" "last" "J" (.long w_last_a1)) (F_first_a1 : Fld Z h0 a1 "com/example/larder/larder/http/ByteRange" "first" "J" (.long w_first_a1)) :
    MetFree l (⟨"com/example/larder/larder/http/ByteRange", "length", "()J"⟩ : MethodName) (head1 (Jvm.Cond.code (⟨"com/example/larder/larder/http/ByteRange", "length", "()J"⟩ : MethodName) prog_41_method_4_code 1 (some .long) :: ws) ({ frames := 0, cells := 0, slots := 0, locals := 0 } : Room)) (fun a U => a = #[(.ref a1)] ∧ Z.Warmed39 U.vm ∧ U.heap = h0) (fun _ _ _ _ _ => True) (fun _ U o U' => ∃ v L, o = .returned v ∧ Q4 Z a1 w_last_a1 w_first_a1 h0 n0 v U'.heap L ∧ FrameEnd U o U' L ({ frames := 0, cells := 0, slots := 0, locals := 0 } : Room).cells ({ frames := 0, cells := 0, slots := 0, locals := 0 } : Room).slots) := by
  refine MetFree.of_bodySF (plainFor_of_name pn4) hisR ?_
  intro p e s m args below meth c s₁ Bd hml0 hP hK
  obtain ⟨rfl, hZ, hh⟩ := hP
  have hx := Bd.exec
  have hby := Bd.bytes
  have hml : c.maxLocals = 1 := hml0
  have hown : s.vm.findClass "com/example/larder/larder/http/ByteRange" = some m.cls := findClass_of_methodNamed Bd.named
  have hnm := (name_of_methodNamed Bd.named Bd.method).1
  have X0 : Stand p l e ({ frames := 0, cells := 0, slots := 0, locals := 0 } : Room) s m #[(.ref a1)] below meth c s₁ [] 0 0 := Stand.of_body Bd
  have e0 : s₁.heap = h0 := by rw [← hh, Bd.state]; rfl
  have N0 := Fr.nil n0
  have pre0 : ∀ t, Steps p.tables e below (s₁.setTop (mkF m 0 #[.val (.ref a1)] [])) t → Steps p.tables e below (s₁.setTop (entryFrame m #[(.ref a1)] 1)) t := fun t k => castTop (ef4 m a1) k
  obtain ⟨T1, X1, e1, st1⟩ := getF X0 hx hZ hown (host := "") (Or.inl (hw _ (List.mem_of_getElem? (i := 18) rfl))) Via.refl e0 F_last_a1 (g := (mkF m 1 #[.val (.ref a1)] [(.ref a1)])) rfl rfl (hb hby d4_1)
  obtain ⟨T2, X2, e2, st2⟩ := getF X1 hx hZ hown (host := "") (Or.inl (hw _ (List.mem_of_getElem? (i := 16) rfl))) Via.refl e1 F_first_a1 (g := (mkF m 5 #[.val (.ref a1)] [(.ref a1), (.long w_last_a1)])) rfl rfl (hb hby d4_5)
  obtain ⟨fs, hr, hrun, hended, hW, hsame⟩ := X2.leave (v := some (.long ((w_last_a1 - w_first_a1) + (1 : Int64)))) (fun h => by rw [Bd.returns] at h; cases h)
  refine ⟨_, _, pre0 _ ?_, hrun, hended, _, _, rfl, ?_, ⟨_, rfl⟩, hW, hsame.mono (by decide) (by decide)⟩
  · show Steps p.tables e below (s₁.setTop (mkF m 0 #[.val (.ref a1)] [])) _
    refine XS.aloadN X0.here hx rfl (hb hby d4_0) rfl rfl ?_
    show Steps p.tables e below (s₁.setTop (mkF m 1 #[.val (.ref a1)] [(.ref a1)])) _
    refine st1 _ ?_
    show Steps p.tables e below (T1.setTop (mkF m 4 #[.val (.ref a1)] [(.long w_last_a1)])) _
    refine XS.aloadN X1.here hx rfl (hb hby d4_4) rfl rfl ?_
    show Steps p.tables e below (T1.setTop (mkF m 5 #[.val (.ref a1)] [(.ref a1), (.long w_last_a1)])) _
    refine st2 _ ?_
    show Steps p.tables e below (T2.setTop (mkF m 8 #[.val (.ref a1)] [(.long w_first_a1), (.long w_last_a1)])) _
    refine XS.lsub X2.here hx rfl (hb hby d4_8) rfl ?_
    show Steps p.tables e below (T2.setTop (mkF m 9 #[.val (.ref a1)] [(.long (w_last_a1 - w_first_a1))])) _
    refine XS.lconst X2.here hx rfl (hb hby d4_9) ?_
    show Steps p.tables e below (T2.setTop (mkF m 10 #[.val (.ref a1)] [(.long (1 : Int64)), (.long (w_last_a1 - w_first_a1))])) _
    refine XS.ladd X2.here hx rfl (hb hby d4_10) rfl ?_
    show Steps p.tables e below (T2.setTop (mkF m 11 #[.val (.ref a1)] [(.long ((w_last_a1 - w_first_a1) + (1 : Int64)))])) _
    jvm_step X2.here [X2.here.top, hx, (hb hby d4_11), X2.method', Bd.returns, narrow]
    first | (intro acts; rw [hr _ acts rfl rfl rfl]) | rw [hr _ _ rfl rfl rfl]
    exact Steps.refl _
  · show Q4 Z a1 w_last_a1 w_first_a1 h0 n0 _ T2.heap _
    rw [e2]
    have hv : (own_len w_last_a1 w_first_a1) = ((w_last_a1 - w_first_a1) + (1 : Int64)) := by unfold own_len; rfl
    exact ⟨by rw [hv], N0, rfl⟩
theorem d5_0 : decode prog_41_method_3_code 0 = .ok (.aload_n 0, 1) := by decide +kernel
theorem d5_1 : decode prog_41_method_3_code 1 = .ok (.getfield 7, 3) := by decide +kernel
theorem d5_4 : decode prog_41_method_3_code 4 = .ok (.aload_n 0, 1) := by decide +kernel
theorem d5_5 : decode prog_41_method_3_code 5 = .ok (.getfield 13, 3) := by decide +kernel
theorem d5_8 : decode prog_41_method_3_code 8 = .ok (.lcmp, 1) := by decide +kernel
theorem d5_9 : decode prog_41_method_3_code 9 = .ok (.ifCond .gt 7, 3) := by decide +kernel
theorem d5_12 : decode prog_41_method_3_code 12 = .ok (.iconst 1, 1) := by decide +kernel
theorem d5_13 : decode prog_41_method_3_code 13 = .ok (.goto 4, 3) := by decide +kernel
theorem d5_16 : decode prog_41_method_3_code 16 = .ok (.iconst 0, 1) := by decide +kernel
theorem d5_17 : decode prog_41_method_3_code 17 = .ok (.ireturn, 1) := by decide +kernel
theorem pn5 : plainName "com/example/larder/larder/http/ByteRange" = true := by first | (simp [plainName, overriddenIn]; done) | decide +kernel
theorem ef5 (m : MethodId) (a1 : Addr) : entryFrame m #[(.ref a1)] 1 = mkF m 0 #[.val (.ref a1)] [] := by first | (simp [entryFrame, mkF, argsToLocals, Value.category]; done) | rfl
def own_sat (w_first_a1 : Int64) (w_last_a1 : Int64) : Int32 := (if w_last_a1 < w_first_a1 then (0 : Int32) else (1 : Int32))
def Q5 (Z : State) (a1 : Addr) (w_first_a1 : Int64) (w_last_a1 : Int64) (h0 : Heap) (n0 : Nat) (v : Option Value) (h : Heap) (L : List Loc) : Prop := v = some (.int (own_sat w_first_a1 w_last_a1)) ∧ Fr n0 L ∧ h = h0
set_option maxRecDepth 65536 in
set_option maxHeartbeats 40000000 in
theorem rm5 (l : Launch) (Z : State) (a0 : Array Value) (hw : ∀ d ∈ tables_1, d.before a0 Z = true) (ws : List Jvm.Cond) (a1 : Addr) (w_first_a1 : Int64) (w_last_a1 : Int64) (h0 : Heap) (n0 : Nat) (Z0 : n0 ≤ h0.size) (F_first_a1 : Fld Z h0 a1 "com/example/larder/larder/http/ByteRange" "first" "J" (.long w_first_a1)) (F_last_a1 : Fld Z h0 a1 "com/example/larder/larder/http/ByteRange" "last" "J" (.long w_last_a1)) :
    MetFree l (⟨"com/example/larder/larder/http/ByteRange", "satisfiable", "()Z"⟩ : MethodName) (head1 (Jvm.Cond.code (⟨"com/example/larder/larder/http/ByteRange", "satisfiable", "()Z"⟩ : MethodName) prog_41_method_3_code 1 (some .boolean) :: ws) ({ frames := 0, cells := 0, slots := 0, locals := 0 } : Room)) (fun a U => a = #[(.ref a1)] ∧ Z.Warmed39 U.vm ∧ U.heap = h0) (fun _ _ _ _ _ => True) (fun _ U o U' => ∃ v L, o = .returned v ∧ Q5 Z a1 w_first_a1 w_last_a1 h0 n0 v U'.heap L ∧ FrameEnd U o U' L ({ frames := 0, cells := 0, slots := 0, locals := 0 } : Room).cells ({ frames := 0, cells := 0, slots := 0, locals := 0 } : Room).slots) := by
  refine MetFree.of_bodySF (plainFor_of_name pn5) hisR ?_
  intro p e s m args below meth c s₁ Bd hml0 hP hK
  obtain ⟨rfl, hZ, hh⟩ := hP
  have hx := Bd.exec
  have hby := Bd.bytes
  have hml : c.maxLocals = 1 := hml0
  have hown : s.vm.findClass "com/example/larder/larder/http/ByteRange" = some m.cls := findClass_of_methodNamed Bd.named
  have hnm := (name_of_methodNamed Bd.named Bd.method).1
  have X0 : Stand p l e ({ frames := 0, cells := 0, slots := 0, locals := 0 } : Room) s m #[(.ref a1)] below meth c s₁ [] 0 0 := Stand.of_body Bd
  have e0 : s₁.heap = h0 := by rw [← hh, Bd.state]; rfl
  have N0 := Fr.nil n0
  have pre0 : ∀ t, Steps p.tables e below (s₁.setTop (mkF m 0 #[.val (.ref a1)] [])) t → Steps p.tables e below (s₁.setTop (entryFrame m #[(.ref a1)] 1)) t := fun t k => castTop (ef5 m a1) k
  obtain ⟨T1, X1, e1, st1⟩ := getF X0 hx hZ hown (host := "") (Or.inl (hw _ (List.mem_of_getElem? (i := 16) rfl))) Via.refl e0 F_first_a1 (g := (mkF m 1 #[.val (.ref a1)] [(.ref a1)])) rfl rfl (hb hby d5_1)
  obtain ⟨T2, X2, e2, st2⟩ := getF X1 hx hZ hown (host := "") (Or.inl (hw _ (List.mem_of_getElem? (i := 18) rfl))) Via.refl e1 F_last_a1 (g := (mkF m 5 #[.val (.ref a1)] [(.ref a1), (.long w_first_a1)])) rfl rfl (hb hby d5_5)
  have c3 : ∀ t, Steps p.tables e below (T2.setTop (mkF m 9 #[.val (.ref a1)] [(.int (lcmpW w_first_a1 w_last_a1))])) t → Steps p.tables e below (s₁.setTop (entryFrame m #[(.ref a1)] 1)) t := fun t kt => by
    refine pre0 _ ?_
    show Steps p.tables e below (s₁.setTop (mkF m 0 #[.val (.ref a1)] [])) _
    refine XS.aloadN X0.here hx rfl (hb hby d5_0) rfl rfl ?_
    show Steps p.tables e below (s₁.setTop (mkF m 1 #[.val (.ref a1)] [(.ref a1)])) _
    refine st1 _ ?_
    show Steps p.tables e below (T1.setTop (mkF m 4 #[.val (.ref a1)] [(.long w_first_a1)])) _
    refine XS.aloadN X1.here hx rfl (hb hby d5_4) rfl rfl ?_
    show Steps p.tables e below (T1.setTop (mkF m 5 #[.val (.ref a1)] [(.ref a1), (.long w_first_a1)])) _
    refine st2 _ ?_
    show Steps p.tables e below (T2.setTop (mkF m 8 #[.val (.ref a1)] [(.long w_last_a1), (.long w_first_a1)])) _
    refine XS.lcmp X2.here hx rfl (hb hby d5_8) rfl ?_
    exact kt
  by_cases hc9 : w_last_a1 < w_first_a1
  · obtain ⟨fs, hr, hrun, hended, hW, hsame⟩ := X2.leave (v := some (.int (0 : Int32))) (fun h => by rw [Bd.returns] at h; cases h)
    refine ⟨_, _, c3 _ ?_, hrun, hended, _, _, rfl, ?_, ⟨_, rfl⟩, hW, hsame.mono (by decide) (by decide)⟩
    · show Steps p.tables e below (T2.setTop (mkF m 9 #[.val (.ref a1)] [(.int (lcmpW w_first_a1 w_last_a1))])) _
      refine XS.ifYes X2.here hx rfl (pc0 := 9) (pc' := 16) rfl (hb hby d5_9) rfl ((if0 _ _).trans (tlt ((lw_gt w_first_a1 w_last_a1).mpr hc9)).2.2.1) (by decide) (by decide) ?_
      show Steps p.tables e below (T2.setTop (mkF m 16 #[.val (.ref a1)] [])) _
      refine XS.iconst X2.here hx rfl (hb hby d5_16) ?_
      show Steps p.tables e below (T2.setTop (mkF m 17 #[.val (.ref a1)] [(.int (0 : Int32))])) _
      exact retN X2 hx (t := .boolean) Bd.returns (by simp) (hb hby d5_17) hr
    · show Q5 Z a1 w_first_a1 w_last_a1 h0 n0 _ T2.heap _
      rw [e2]
      have hv : (own_sat w_first_a1 w_last_a1) = (0 : Int32) := by unfold own_sat; rw [if_pos hc9]
      exact ⟨by rw [hv], N0, rfl⟩
  · obtain ⟨fs, hr, hrun, hended, hW, hsame⟩ := X2.leave (v := some (.int (1 : Int32))) (fun h => by rw [Bd.returns] at h; cases h)
    refine ⟨_, _, c3 _ ?_, hrun, hended, _, _, rfl, ?_, ⟨_, rfl⟩, hW, hsame.mono (by decide) (by decide)⟩
    · show Steps p.tables e below (T2.setTop (mkF m 9 #[.val (.ref a1)] [(.int (lcmpW w_first_a1 w_last_a1))])) _
      refine XS.ifNo X2.here hx rfl (hb hby d5_9) rfl ((if0 _ _).trans (flt (fun q => hc9 ((lw_gt w_first_a1 w_last_a1).mp q))).2.2.1) ?_
      show Steps p.tables e below (T2.setTop (mkF m 12 #[.val (.ref a1)] [])) _
      refine XS.iconst X2.here hx rfl (hb hby d5_12) ?_
      show Steps p.tables e below (T2.setTop (mkF m 13 #[.val (.ref a1)] [(.int (1 : Int32))])) _
      refine XS.goto X2.here hx rfl (pc0 := 13) (pc' := 17) rfl (hb hby d5_13) (by decide) (by decide) ?_
      show Steps p.tables e below (T2.setTop (mkF m 17 #[.val (.ref a1)] [(.int (1 : Int32))])) _
      exact retN X2 hx (t := .boolean) Bd.returns (by simp) (hb hby d5_17) hr
    · show Q5 Z a1 w_first_a1 w_last_a1 h0 n0 _ T2.heap _
      rw [e2]
      have hv : (own_sat w_first_a1 w_last_a1) = (1 : Int32) := by unfold own_sat; rw [if_neg hc9]
      exact ⟨by rw [hv], N0, rfl⟩
theorem own_size (s : Int64) : 0 ≤ (s &&& 4611686018427387903).toInt ∧ (s &&& 4611686018427387903).toInt < 2 ^ 62 := by
  have h := c_maskL s 4611686018427387903 62 (by decide) (by decide)
  have e : ((2 ^ 62 : Nat) : Int) = 4611686018427387904 := by decide
  rw [e] at h
  omega
theorem own_one (s : Int64) : ((s &&& 4611686018427387903) + 1).toInt = (s &&& 4611686018427387903).toInt + 1 := by
  have h := own_size s
  exact Jvm.Kit.i64_add (y := 1) (by show -2 ^ 63 ≤ (s &&& 4611686018427387903).toInt + 1; omega) (by show (s &&& 4611686018427387903).toInt + 1 < 2 ^ 63; omega)
theorem own_nz (s : Int64) : (s &&& 4611686018427387903) + 1 ≠ 0 := fun z => by
  have h := own_size s
  have e := own_one s
  rw [z] at e
  have e' : (0 : Int) = (s &&& 4611686018427387903).toInt + 1 := e
  omega
theorem own_abs (x : Int64) : 0 ≤ (x &&& 9223372036854775807).toInt := by
  have h := c_maskL x 9223372036854775807 63 (by decide) (by decide)
  have e : ((2 ^ 63 : Nat) : Int) = 9223372036854775808 := by decide
  rw [e] at h
  omega
theorem own_rem (x s : Int64) : 0 ≤ ((x &&& 9223372036854775807) - ((x &&& 9223372036854775807) / ((s &&& 4611686018427387903) + 1)) * ((s &&& 4611686018427387903) + 1)).toInt ∧ ((x &&& 9223372036854775807) - ((x &&& 9223372036854775807) / ((s &&& 4611686018427387903) + 1)) * ((s &&& 4611686018427387903) + 1)).toInt ≤ (s &&& 4611686018427387903).toInt := by
  have a := own_abs x
  have b := own_one s
  have d := own_size s
  have h := (c_lrem (x &&& 9223372036854775807) ((s &&& 4611686018427387903) + 1) ((s &&& 4611686018427387903).toInt + 1) b).1 a
  rw [h]
  have h1 := Int.emod_nonneg (x &&& 9223372036854775807).toInt (b := (s &&& 4611686018427387903).toInt + 1) (by omega)
  have h2 := Int.emod_lt_of_pos (x &&& 9223372036854775807).toInt (b := (s &&& 4611686018427387903).toInt + 1) (by omega)
  omega
theorem own_last (x s : Int64) : -1 ≤ (((x &&& 9223372036854775807) - ((x &&& 9223372036854775807) / ((s &&& 4611686018427387903) + 1)) * ((s &&& 4611686018427387903) + 1)) - 1).toInt ∧ (((x &&& 9223372036854775807) - ((x &&& 9223372036854775807) / ((s &&& 4611686018427387903) + 1)) * ((s &&& 4611686018427387903) + 1)) - 1).toInt < (s &&& 4611686018427387903).toInt := by
  have h := own_rem x s
  have d := own_size s
  generalize hg : ((x &&& 9223372036854775807) - ((x &&& 9223372036854775807) / ((s &&& 4611686018427387903) + 1)) * ((s &&& 4611686018427387903) + 1)) = r at *
  have e : (r - 1).toInt = r.toInt - 1 := Jvm.Kit.i64_sub (y := 1) (by show -2 ^ 63 ≤ r.toInt - 1; omega) (by show r.toInt - 1 < 2 ^ 63; omega)
  omega
theorem own_first (f s : Int64) (k : Int32) (j : Int64) (e : j = (if (k &&& (1 : Int32)) = (0 : Int32) then (f &&& (9223372036854775807 : Int64)) else ((f &&& (9223372036854775807 : Int64)) - ((f &&& (9223372036854775807 : Int64)) / ((s &&& (4611686018427387903 : Int64)) + (1 : Int64))) * ((s &&& (4611686018427387903 : Int64)) + (1 : Int64))))) : 0 ≤ j.toInt := by
  by_cases h : (k &&& (1 : Int32)) = (0 : Int32)
  · rw [e, if_pos h]; exact own_abs f
  · rw [e, if_neg h]; exact (own_rem f s).1
theorem own_lenI (l f : Int64) (hf : 0 ≤ f.toInt) (hl : -1 ≤ l.toInt) (hl2 : l.toInt < 2 ^ 62) : (own_len l f).toInt = l.toInt - f.toInt + 1 := by
  unfold own_len
  have a := f.toInt_lt
  have e : (l - f).toInt = l.toInt - f.toInt := Jvm.Kit.i64_sub (by omega) (by omega)
  have e2 : ((l - f) + 1).toInt = (l - f).toInt + 1 := Jvm.Kit.i64_add (y := 1) (by show -2 ^ 63 ≤ (l - f).toInt + 1; omega) (by show (l - f).toInt + 1 < 2 ^ 63; omega)
  show ((l - f) + 1).toInt = _
  omega
theorem own_sat1 (f l : Int64) (h : ¬ l < f) : ¬ own_sat f l = 0 := by
  unfold own_sat; rw [if_neg h]; decide
theorem own_sat0 (f l : Int64) (h : l < f) : own_sat f l = 0 := by
  unfold own_sat; rw [if_pos h]
theorem own_c97 (f l : Int64) (hf : 0 ≤ f.toInt) (hl : -1 ≤ l.toInt) (hl2 : l.toInt < 2 ^ 62) (h : ¬ l < f) : ¬ own_len l f < 1 := fun z => by
  have e := own_lenI l f hf hl hl2
  have z' : (own_len l f).toInt < 1 := Int64.lt_iff_toInt_lt.mp z
  have h' : ¬ l.toInt < f.toInt := fun q => h (Int64.lt_iff_toInt_lt.mpr q)
  omega
theorem own_c110 (f l : Int64) : (f + own_len l f) - 1 = l := by
  unfold own_len
  have : ∀ a b : Int64, (a + ((b - a) + 1)) - 1 = b := by
    intro a b
    apply Int64.toBitVec_inj.mp
    show (a.toBitVec + ((b.toBitVec - a.toBitVec) + BitVec.ofNat 64 1)) - BitVec.ofNat 64 1 = b.toBitVec
    rw [← BitVec.add_assoc, BitVec.add_sub_cancel, BitVec.add_comm, BitVec.sub_add_cancel]
  exact this f l
theorem own_c121 (f l n : Int64) (hf : 0 ≤ f.toInt) (hl : -1 ≤ l.toInt) (hn : l.toInt < n.toInt) (hn2 : n.toInt < 2 ^ 62) (h : ¬ l < f) : ¬ n - f < own_len l f := fun z => by
  have e := own_lenI l f hf hl (by omega)
  have z' := Int64.lt_iff_toInt_lt.mp z
  have h' : ¬ l.toInt < f.toInt := fun q => h (Int64.lt_iff_toInt_lt.mpr q)
  have e2 : (n - f).toInt = n.toInt - f.toInt := Jvm.Kit.i64_sub (by omega) (by omega)
  omega
theorem own_c139 (f l : Int64) (hf : 0 ≤ f.toInt) (hl : -1 ≤ l.toInt) (hl2 : l.toInt < 2 ^ 62) (h : l < f) : ¬ 0 < own_len l f := fun z => by
  have e := own_lenI l f hf hl hl2
  have z' : 0 < (own_len l f).toInt := Int64.lt_iff_toInt_lt.mp z
  have h' := Int64.lt_iff_toInt_lt.mp h
  omega
theorem pn0 : plainName "com/example/larder/larder/http/ByteRangeLengthPinLaw" = true := by first | (simp [plainName, overriddenIn]; done) | decide +kernel
theorem pd0_0 : parseMethodDescriptor "(JJJ)V" = some ⟨[.long, .long, .long], none⟩ := by decide +kernel
theorem pd0_1 : parseMethodDescriptor "()J" = some ⟨[], some .long⟩ := by decide +kernel
theorem pd0_2 : parseMethodDescriptor "()Z" = some ⟨[], some .boolean⟩ := by decide +kernel
theorem ef0 (m : MethodId) (q1 : Int64) (q2 : Int64) (q3 : Int64) (p4 : Int32) : entryFrame m #[(.long q1), (.long q2), (.long q3), (.int p4)] maxLocals = mkF m 0 #[.val (.long q1), .second, .val (.long q2), .second, .val (.long q3), .second, .val (.int p4), .unset, .unset, .unset, .unset, .unset, .unset, .unset, .unset, .unset, .unset] [] := by first | (simp [entryFrame, mkF, argsToLocals, Value.category, maxLocals]; done) | rfl
def Q0 (Z : State) (q1 : Int64) (q2 : Int64) (q3 : Int64) (p4 : Int32) (h0 : Heap) (n0 : Nat) (v : Option Value) (h : Heap) (L : List Loc) : Prop := v = some (.int (1 : Int32)) ∧ Fr n0 L
set_option maxRecDepth 65536 in
set_option maxHeartbeats 40000000 in
theorem rm0 (l : Launch) (Z : State) (a0 : Array Value) (hw : ∀ d ∈ tables_1, d.before a0 Z = true) (ws : List Jvm.Cond) (q1 : Int64) (q2 : Int64) (q3 : Int64) (p4 : Int32) (h0 : Heap) (n0 : Nat) (Z0 : n0 ≤ h0.size) :
    MetFree l x (head1 (Jvm.Cond.code x code maxLocals ret :: ws) room_1) (fun a U => a = #[(.long q1), (.long q2), (.long q3), (.int p4)] ∧ Z.Warmed39 U.vm ∧ U.heap = h0) (fun _ _ _ _ _ => True) (fun _ U o U' => ∃ v L, o = .returned v ∧ Q0 Z q1 q2 q3 p4 h0 n0 v U'.heap L ∧ FrameEnd U o U' L room_1.cells room_1.slots) := by
  refine MetFree.of_bodySF (plainFor_of_name pn0) hisR ?_
  intro p e s m args below meth c s₁ Bd hml0 hP hK
  obtain ⟨rfl, hZ, hh⟩ := hP
  have hx := Bd.exec
  have hby := Bd.bytes
  have hml : c.maxLocals = 17 := hml0
  have hown : s.vm.findClass "com/example/larder/larder/http/ByteRangeLengthPinLaw" = some m.cls := findClass_of_methodNamed Bd.named
  have hnm := (name_of_methodNamed Bd.named Bd.method).1
  have X0 : Stand p l e room_1 s m #[(.long q1), (.long q2), (.long q3), (.int p4)] below meth c s₁ [] 0 0 := Stand.of_body Bd
  have e0 : s₁.heap = h0 := by rw [← hh, Bd.state]; rfl
  have N0 := Fr.nil n0
  have pre0 : ∀ t, Steps p.tables e below (s₁.setTop (mkF m 0 #[.val (.long q1), .second, .val (.long q2), .second, .val (.long q3), .second, .val (.int p4), .unset, .unset, .unset, .unset, .unset, .unset, .unset, .unset, .unset, .unset] [])) t → Steps p.tables e below (s₁.setTop (entryFrame m #[(.long q1), (.long q2), (.long q3), (.int p4)] maxLocals)) t := fun t k => castTop (ef0 m q1 q2 q3 p4) k
  obtain ⟨j8_L9, ej8_L9⟩ : ∃ z : Int64, z = (if (p4 &&& (1 : Int32)) = (0 : Int32) then (q1 &&& (9223372036854775807 : Int64)) else ((q1 &&& (9223372036854775807 : Int64)) - ((q1 &&& (9223372036854775807 : Int64)) / ((q3 &&& (4611686018427387903 : Int64)) + (1 : Int64))) * ((q3 &&& (4611686018427387903 : Int64)) + (1 : Int64)))) := ⟨_, rfl⟩
  have sg8 : ∀ t, Steps p.tables e below (s₁.setTop (mkF m 37 #[.val (.long q1), .second, .val (.long q2), .second, .val (.long q3), .second, .val (.int p4), .val (.long (q3 &&& (4611686018427387903 : Int64))), .second, .val (.long j8_L9), .second, .unset, .unset, .unset, .unset, .unset, .unset] [])) t → Steps p.tables e below (s₁.setTop (mkF m 8 #[.val (.long q1), .second, .val (.long q2), .second, .val (.long q3), .second, .val (.int p4), .val (.long (q3 &&& (4611686018427387903 : Int64))), .second, .unset, .unset, .unset, .unset, .unset, .unset, .unset, .unset] [])) t := fun t kt => by
    show Steps p.tables e below (s₁.setTop (mkF m 8 #[.val (.long q1), .second, .val (.long q2), .second, .val (.long q3), .second, .val (.int p4), .val (.long (q3 &&& (4611686018427387903 : Int64))), .second, .unset, .unset, .unset, .unset, .unset, .unset, .unset, .unset] [])) _
    refine XS.iload X0.here hx rfl (hb hby at_8) rfl ?_
    show Steps p.tables e below (s₁.setTop (mkF m 10 #[.val (.long q1), .second, .val (.long q2), .second, .val (.long q3), .second, .val (.int p4), .val (.long (q3 &&& (4611686018427387903 : Int64))), .second, .unset, .unset, .unset, .unset, .unset, .unset, .unset, .unset] [(.int p4)])) _
    refine XS.iconst X0.here hx rfl (hb hby at_10) ?_
    show Steps p.tables e below (s₁.setTop (mkF m 11 #[.val (.long q1), .second, .val (.long q2), .second, .val (.long q3), .second, .val (.int p4), .val (.long (q3 &&& (4611686018427387903 : Int64))), .second, .unset, .unset, .unset, .unset, .unset, .unset, .unset, .unset] [(.int (1 : Int32)), (.int p4)])) _
    refine XS.iand X0.here hx rfl (hb hby at_11) rfl ?_
    by_cases hc12 : (p4 &&& (1 : Int32)) = (0 : Int32)
    · have qj8_L9 : j8_L9 = (q1 &&& (9223372036854775807 : Int64)) := by rw [ej8_L9, if_pos hc12]
      rw [qj8_L9] at kt
      show Steps p.tables e below (s₁.setTop (mkF m 12 #[.val (.long q1), .second, .val (.long q2), .second, .val (.long q3), .second, .val (.int p4), .val (.long (q3 &&& (4611686018427387903 : Int64))), .second, .unset, .unset, .unset, .unset, .unset, .unset, .unset, .unset] [(.int (p4 &&& (1 : Int32)))])) _
      refine XS.ifYes X0.here hx rfl (pc0 := 12) (pc' := 30) rfl (hb hby at_12) rfl ((if0 _ _).trans (teq hc12).1) (by decide) (by decide) ?_
      show Steps p.tables e below (s₁.setTop (mkF m 30 #[.val (.long q1), .second, .val (.long q2), .second, .val (.long q3), .second, .val (.int p4), .val (.long (q3 &&& (4611686018427387903 : Int64))), .second, .unset, .unset, .unset, .unset, .unset, .unset, .unset, .unset] [])) _
      refine XS.lloadN X0.here hx rfl (hb hby at_30) rfl ?_
      show Steps p.tables e below (s₁.setTop (mkF m 31 #[.val (.long q1), .second, .val (.long q2), .second, .val (.long q3), .second, .val (.int p4), .val (.long (q3 &&& (4611686018427387903 : Int64))), .second, .unset, .unset, .unset, .unset, .unset, .unset, .unset, .unset] [(.long q1)])) _
      refine X0.ldc2Long hx hown (mvT hZ (hw _ (List.mem_of_getElem? (i := 1) rfl))) (g := (mkF m 31 #[.val (.long q1), .second, .val (.long q2), .second, .val (.long q3), .second, .val (.int p4), .val (.long (q3 &&& (4611686018427387903 : Int64))), .second, .unset, .unset, .unset, .unset, .unset, .unset, .unset, .unset] [(.long q1)])) rfl (hb hby at_31) _ ?_
      show Steps p.tables e below (s₁.setTop (mkF m 34 #[.val (.long q1), .second, .val (.long q2), .second, .val (.long q3), .second, .val (.int p4), .val (.long (q3 &&& (4611686018427387903 : Int64))), .second, .unset, .unset, .unset, .unset, .unset, .unset, .unset, .unset] [(.long (9223372036854775807 : Int64)), (.long q1)])) _
      refine XS.land X0.here hx rfl (hb hby at_34) rfl ?_
      show Steps p.tables e below (s₁.setTop (mkF m 35 #[.val (.long q1), .second, .val (.long q2), .second, .val (.long q3), .second, .val (.int p4), .val (.long (q3 &&& (4611686018427387903 : Int64))), .second, .unset, .unset, .unset, .unset, .unset, .unset, .unset, .unset] [(.long (q1 &&& (9223372036854775807 : Int64)))])) _
      refine XS.lstore X0.here hx rfl (hb hby at_35) rfl (l' := #[.val (.long q1), .second, .val (.long q2), .second, .val (.long q3), .second, .val (.int p4), .val (.long (q3 &&& (4611686018427387903 : Int64))), .second, .val (.long (q1 &&& (9223372036854775807 : Int64))), .second, .unset, .unset, .unset, .unset, .unset, .unset]) rfl ?_
      exact kt
    · have qj8_L9 : j8_L9 = ((q1 &&& (9223372036854775807 : Int64)) - ((q1 &&& (9223372036854775807 : Int64)) / ((q3 &&& (4611686018427387903 : Int64)) + (1 : Int64))) * ((q3 &&& (4611686018427387903 : Int64)) + (1 : Int64))) := by rw [ej8_L9, if_neg hc12]
      rw [qj8_L9] at kt
      show Steps p.tables e below (s₁.setTop (mkF m 12 #[.val (.long q1), .second, .val (.long q2), .second, .val (.long q3), .second, .val (.int p4), .val (.long (q3 &&& (4611686018427387903 : Int64))), .second, .unset, .unset, .unset, .unset, .unset, .unset, .unset, .unset] [(.int (p4 &&& (1 : Int32)))])) _
      refine XS.ifNo X0.here hx rfl (hb hby at_12) rfl ((if0 _ _).trans (feq hc12).1) ?_
      show Steps p.tables e below (s₁.setTop (mkF m 15 #[.val (.long q1), .second, .val (.long q2), .second, .val (.long q3), .second, .val (.int p4), .val (.long (q3 &&& (4611686018427387903 : Int64))), .second, .unset, .unset, .unset, .unset, .unset, .unset, .unset, .unset] [])) _
      refine XS.lloadN X0.here hx rfl (hb hby at_15) rfl ?_
      show Steps p.tables e below (s₁.setTop (mkF m 16 #[.val (.long q1), .second, .val (.long q2), .second, .val (.long q3), .second, .val (.int p4), .val (.long (q3 &&& (4611686018427387903 : Int64))), .second, .unset, .unset, .unset, .unset, .unset, .unset, .unset, .unset] [(.long q1)])) _
      refine X0.ldc2Long hx hown (mvT hZ (hw _ (List.mem_of_getElem? (i := 1) rfl))) (g := (mkF m 16 #[.val (.long q1), .second, .val (.long q2), .second, .val (.long q3), .second, .val (.int p4), .val (.long (q3 &&& (4611686018427387903 : Int64))), .second, .unset, .unset, .unset, .unset, .unset, .unset, .unset, .unset] [(.long q1)])) rfl (hb hby at_16) _ ?_
      show Steps p.tables e below (s₁.setTop (mkF m 19 #[.val (.long q1), .second, .val (.long q2), .second, .val (.long q3), .second, .val (.int p4), .val (.long (q3 &&& (4611686018427387903 : Int64))), .second, .unset, .unset, .unset, .unset, .unset, .unset, .unset, .unset] [(.long (9223372036854775807 : Int64)), (.long q1)])) _
      refine XS.land X0.here hx rfl (hb hby at_19) rfl ?_
      show Steps p.tables e below (s₁.setTop (mkF m 20 #[.val (.long q1), .second, .val (.long q2), .second, .val (.long q3), .second, .val (.int p4), .val (.long (q3 &&& (4611686018427387903 : Int64))), .second, .unset, .unset, .unset, .unset, .unset, .unset, .unset, .unset] [(.long (q1 &&& (9223372036854775807 : Int64)))])) _
      refine XS.lload X0.here hx rfl (hb hby at_20) rfl ?_
      show Steps p.tables e below (s₁.setTop (mkF m 22 #[.val (.long q1), .second, .val (.long q2), .second, .val (.long q3), .second, .val (.int p4), .val (.long (q3 &&& (4611686018427387903 : Int64))), .second, .unset, .unset, .unset, .unset, .unset, .unset, .unset, .unset] [(.long (q3 &&& (4611686018427387903 : Int64))), (.long (q1 &&& (9223372036854775807 : Int64)))])) _
      refine XS.lconst X0.here hx rfl (hb hby at_22) ?_
      show Steps p.tables e below (s₁.setTop (mkF m 23 #[.val (.long q1), .second, .val (.long q2), .second, .val (.long q3), .second, .val (.int p4), .val (.long (q3 &&& (4611686018427387903 : Int64))), .second, .unset, .unset, .unset, .unset, .unset, .unset, .unset, .unset] [(.long (1 : Int64)), (.long (q3 &&& (4611686018427387903 : Int64))), (.long (q1 &&& (9223372036854775807 : Int64)))])) _
      refine XS.ladd X0.here hx rfl (hb hby at_23) rfl ?_
      show Steps p.tables e below (s₁.setTop (mkF m 24 #[.val (.long q1), .second, .val (.long q2), .second, .val (.long q3), .second, .val (.int p4), .val (.long (q3 &&& (4611686018427387903 : Int64))), .second, .unset, .unset, .unset, .unset, .unset, .unset, .unset, .unset] [(.long ((q3 &&& (4611686018427387903 : Int64)) + (1 : Int64))), (.long (q1 &&& (9223372036854775807 : Int64)))])) _
      refine XS.lrem X0.here hx rfl (hb hby at_24) rfl (own_nz q3) ?_
      show Steps p.tables e below (s₁.setTop (mkF m 25 #[.val (.long q1), .second, .val (.long q2), .second, .val (.long q3), .second, .val (.int p4), .val (.long (q3 &&& (4611686018427387903 : Int64))), .second, .unset, .unset, .unset, .unset, .unset, .unset, .unset, .unset] [(.long ((q1 &&& (9223372036854775807 : Int64)) - ((q1 &&& (9223372036854775807 : Int64)) / ((q3 &&& (4611686018427387903 : Int64)) + (1 : Int64))) * ((q3 &&& (4611686018427387903 : Int64)) + (1 : Int64))))])) _
      refine XS.lstore X0.here hx rfl (hb hby at_25) rfl (l' := #[.val (.long q1), .second, .val (.long q2), .second, .val (.long q3), .second, .val (.int p4), .val (.long (q3 &&& (4611686018427387903 : Int64))), .second, .val (.long ((q1 &&& (9223372036854775807 : Int64)) - ((q1 &&& (9223372036854775807 : Int64)) / ((q3 &&& (4611686018427387903 : Int64)) + (1 : Int64))) * ((q3 &&& (4611686018427387903 : Int64)) + (1 : Int64)))), .second, .unset, .unset, .unset, .unset, .unset, .unset]) rfl ?_
      show Steps p.tables e below (s₁.setTop (mkF m 27 #[.val (.long q1), .second, .val (.long q2), .second, .val (.long q3), .second, .val (.int p4), .val (.long (q3 &&& (4611686018427387903 : Int64))), .second, .val (.long ((q1 &&& (9223372036854775807 : Int64)) - ((q1 &&& (9223372036854775807 : Int64)) / ((q3 &&& (4611686018427387903 : Int64)) + (1 : Int64))) * ((q3 &&& (4611686018427387903 : Int64)) + (1 : Int64)))), .second, .unset, .unset, .unset, .unset, .unset, .unset] [])) _
      refine XS.goto X0.here hx rfl (pc0 := 27) (pc' := 37) rfl (hb hby at_27) (by decide) (by decide) ?_
      exact kt
  obtain ⟨T1, h1, X1, e1, E1, A1, D1, -, st1⟩ := newO X0 hx hZ hown (hw _ (List.mem_of_getElem? (i := 2) rfl)) (hw _ (List.mem_of_getElem? (i := 3) rfl)) (hw _ (List.mem_of_getElem? (i := 4) rfl)) e0 (g := (mkF m 51 #[.val (.long q1), .second, .val (.long q2), .second, .val (.long q3), .second, .val (.int p4), .val (.long (q3 &&& (4611686018427387903 : Int64))), .second, .val (.long j8_L9), .second, .val (.long (((q2 &&& (9223372036854775807 : Int64)) - ((q2 &&& (9223372036854775807 : Int64)) / ((q3 &&& (4611686018427387903 : Int64)) + (1 : Int64))) * ((q3 &&& (4611686018427387903 : Int64)) + (1 : Int64))) - (1 : Int64))), .second, .unset, .unset, .unset, .unset] [])) rfl (hb hby at_51) (by decide) (by decide)
  obtain ⟨b1, g1⟩ : ∃ z, z = h0.size := ⟨_, rfl⟩
  rw [← g1] at A1 D1 st1
  have g_b1 : n0 ≤ b1 := Nat.le_trans Z0 (Nat.le_of_eq g1.symm)
  have Z1 : n0 ≤ h1.size := Nat.le_trans Z0 E1.1
  have F1_first : Fld Z h1 b1 "com/example/larder/larder/http/ByteRange" "first" "J" (.long (0 : Int64)) := D1 (Or.inr (hw _ (List.mem_of_getElem? (i := 17) rfl))) (ty := .long) (by decide)
  have F1_last : Fld Z h1 b1 "com/example/larder/larder/http/ByteRange" "last" "J" (.long (0 : Int64)) := D1 (Or.inr (hw _ (List.mem_of_getElem? (i := 19) rfl))) (ty := .long) (by decide)
  have F1_size : Fld Z h1 b1 "com/example/larder/larder/http/ByteRange" "size" "J" (.long (0 : Int64)) := D1 (Or.inr (hw _ (List.mem_of_getElem? (i := 21) rfl))) (ty := .long) (by decide)
  obtain ⟨_, _, ⟨T2, L2, k2, n2⟩, -, X2, ⟨Lc2, hQ2, l2, y2, z2⟩, st2⟩ := X1.specialBack hx (y := (⟨"com/example/larder/larder/http/ByteRange", "<init>", "(JJJ)V"⟩ : MethodName)) rfl hown (mvT hZ (hw _ (List.mem_of_getElem? (i := 5) rfl))) (mvT hZ (hw _ (List.mem_of_getElem? (i := 6) rfl))) (mvT hZ (hw _ (List.mem_of_getElem? (i := 7) rfl))) (by decide) (backOf (W := 1) (rm1 l Z a0 hw [] b1 j8_L9 (((q2 &&& (9223372036854775807 : Int64)) - ((q2 &&& (9223372036854775807 : Int64)) / ((q3 &&& (4611686018427387903 : Int64)) + (1 : Int64))) * ((q3 &&& (4611686018427387903 : Int64)) + (1 : Int64))) - (1 : Int64)) (q3 &&& (4611686018427387903 : Int64)) h1 n0 Z1 A1 F1_first F1_last F1_size g_b1) hZ (hw _ (List.mem_of_getElem? (i := 7) rfl)) (hw _ (List.mem_of_getElem? (i := 4) rfl)) (by decide) (by decide)) (g := (mkF m 61 #[.val (.long q1), .second, .val (.long q2), .second, .val (.long q3), .second, .val (.int p4), .val (.long (q3 &&& (4611686018427387903 : Int64))), .second, .val (.long j8_L9), .second, .val (.long (((q2 &&& (9223372036854775807 : Int64)) - ((q2 &&& (9223372036854775807 : Int64)) / ((q3 &&& (4611686018427387903 : Int64)) + (1 : Int64))) * ((q3 &&& (4611686018427387903 : Int64)) + (1 : Int64))) - (1 : Int64))), .second, .unset, .unset, .unset, .unset] [(.long (q3 &&& (4611686018427387903 : Int64))), (.long (((q2 &&& (9223372036854775807 : Int64)) - ((q2 &&& (9223372036854775807 : Int64)) / ((q3 &&& (4611686018427387903 : Int64)) + (1 : Int64))) * ((q3 &&& (4611686018427387903 : Int64)) + (1 : Int64))) - (1 : Int64))), (.long j8_L9), (.ref b1), (.ref b1)])) rfl (by rw [hml]; rfl) (Steps.refl _) (a := b1) (argsL := [(.long j8_L9), (.long (((q2 &&& (9223372036854775807 : Int64)) - ((q2 &&& (9223372036854775807 : Int64)) / ((q3 &&& (4611686018427387903 : Int64)) + (1 : Int64))) * ((q3 &&& (4611686018427387903 : Int64)) + (1 : Int64))) - (1 : Int64))), (.long (q3 &&& (4611686018427387903 : Int64)))]) (rest := [(.ref b1)]) (lenOf pd0_0 rfl) rfl (by show 2 * 0 + _ ≤ _; exact Nat.le_of_eq rfl) (hb hby at_61) (fun _ _ => ⟨rfl, e1, (by decide : 1 + 0 ≤ _), (by decide : 3 + 0 ≤ _)⟩)
  dsimp only [Pt.U, Pt.locs, Pt.cells, Pt.slots] at X2 l2 y2 z2 st2 hQ2
  subst l2 y2 z2
  obtain ⟨rfl, N2q, K2q, E2q, F2q_first, F2q_last, F2q_size⟩ := hQ2
  have f2_E_b1 := A1.keep K2q
  have N2 := Fr.app N0 N2q
  have Z2 : n0 ≤ T2.heap.size := Nat.le_trans Z1 K2q.1
  obtain ⟨cq3, kq3, q3a, q3b, q3c⟩ := isOf hZ rfl E2q
  obtain ⟨_, _, ⟨T3, L3, k3, n3⟩, -, X3, ⟨Lc3, hQ3, l3, y3, z3⟩, st3⟩ := X2.virtualBack hx (y := (⟨"com/example/larder/larder/http/ByteRange", "length", "()J"⟩ : MethodName)) (z := (⟨"com/example/larder/larder/http/ByteRange", "length", "()J"⟩ : MethodName)) hown (mvT hZ (hw _ (List.mem_of_getElem? (i := 22) rfl))) (mvT hZ (hw _ (List.mem_of_getElem? (i := 23) rfl))) (notFace_of_selects (args := #[]) (mvT hZ (hw _ (List.mem_of_getElem? (i := 25) rfl)))) (mvT hZ (hw _ (List.mem_of_getElem? (i := 25) rfl))) (mvT hZ (hw _ (List.mem_of_getElem? (i := 24) rfl))) (by decide) (backOf (W := 0) (rm4 l Z a0 hw [] b1 (((q2 &&& (9223372036854775807 : Int64)) - ((q2 &&& (9223372036854775807 : Int64)) / ((q3 &&& (4611686018427387903 : Int64)) + (1 : Int64))) * ((q3 &&& (4611686018427387903 : Int64)) + (1 : Int64))) - (1 : Int64)) j8_L9 T2.heap n0 Z2 F2q_last F2q_first) hZ (hw _ (List.mem_of_getElem? (i := 26) rfl)) (hw _ (List.mem_of_getElem? (i := 4) rfl)) (by decide) (by decide)) q3a q3c (g := (mkF m 68 #[.val (.long q1), .second, .val (.long q2), .second, .val (.long q3), .second, .val (.int p4), .val (.long (q3 &&& (4611686018427387903 : Int64))), .second, .val (.long j8_L9), .second, .val (.long (((q2 &&& (9223372036854775807 : Int64)) - ((q2 &&& (9223372036854775807 : Int64)) / ((q3 &&& (4611686018427387903 : Int64)) + (1 : Int64))) * ((q3 &&& (4611686018427387903 : Int64)) + (1 : Int64))) - (1 : Int64))), .second, .val (.ref b1), .unset, .unset, .unset] [(.ref b1)])) rfl (by rw [hml]; rfl) (Steps.refl _) (argsL := []) (rest := []) (lenOf pd0_1 rfl) rfl (by show 2 * 0 + _ ≤ _; exact Nat.le_of_eq rfl) (hb hby at_68) (fun _ _ => ⟨rfl, rfl, (by decide : 1 + 0 ≤ _), (by decide : 3 + 0 ≤ _)⟩)
  dsimp only [Pt.U, Pt.locs, Pt.cells, Pt.slots] at X3 l3 y3 z3 st3 hQ3
  subst l3 y3 z3
  obtain ⟨rfl, N3q, e3⟩ := hQ3
  have N3 := Fr.app N2 N3q
  obtain ⟨cq4, kq4, q4a, q4b, q4c⟩ := isOf hZ e3 E2q
  obtain ⟨_, _, ⟨T4, L4, k4, n4⟩, -, X4, ⟨Lc4, hQ4, l4, y4, z4⟩, st4⟩ := X3.virtualBack hx (y := (⟨"com/example/larder/larder/http/ByteRange", "satisfiable", "()Z"⟩ : MethodName)) (z := (⟨"com/example/larder/larder/http/ByteRange", "satisfiable", "()Z"⟩ : MethodName)) hown (mvT hZ (hw _ (List.mem_of_getElem? (i := 27) rfl))) (mvT hZ (hw _ (List.mem_of_getElem? (i := 28) rfl))) (notFace_of_selects (args := #[]) (mvT hZ (hw _ (List.mem_of_getElem? (i := 30) rfl)))) (mvT hZ (hw _ (List.mem_of_getElem? (i := 30) rfl))) (mvT hZ (hw _ (List.mem_of_getElem? (i := 29) rfl))) (by decide) (backOf (W := 0) (rm5 l Z a0 hw [] b1 j8_L9 (((q2 &&& (9223372036854775807 : Int64)) - ((q2 &&& (9223372036854775807 : Int64)) / ((q3 &&& (4611686018427387903 : Int64)) + (1 : Int64))) * ((q3 &&& (4611686018427387903 : Int64)) + (1 : Int64))) - (1 : Int64)) T2.heap n0 Z2 F2q_first F2q_last) hZ (hw _ (List.mem_of_getElem? (i := 31) rfl)) (hw _ (List.mem_of_getElem? (i := 4) rfl)) (by decide) (by decide)) q4a q4c (g := (mkF m 75 #[.val (.long q1), .second, .val (.long q2), .second, .val (.long q3), .second, .val (.int p4), .val (.long (q3 &&& (4611686018427387903 : Int64))), .second, .val (.long j8_L9), .second, .val (.long (((q2 &&& (9223372036854775807 : Int64)) - ((q2 &&& (9223372036854775807 : Int64)) / ((q3 &&& (4611686018427387903 : Int64)) + (1 : Int64))) * ((q3 &&& (4611686018427387903 : Int64)) + (1 : Int64))) - (1 : Int64))), .second, .val (.ref b1), .val (.long (own_len (((q2 &&& (9223372036854775807 : Int64)) - ((q2 &&& (9223372036854775807 : Int64)) / ((q3 &&& (4611686018427387903 : Int64)) + (1 : Int64))) * ((q3 &&& (4611686018427387903 : Int64)) + (1 : Int64))) - (1 : Int64)) j8_L9)), .second, .unset] [(.ref b1)])) rfl (by rw [hml]; rfl) (Steps.refl _) (argsL := []) (rest := []) (lenOf pd0_2 rfl) rfl (by show 2 * 0 + _ ≤ _; exact Nat.le_of_eq rfl) (hb hby at_75) (fun _ _ => ⟨rfl, e3, (by decide : 1 + 0 ≤ _), (by decide : 3 + 0 ≤ _)⟩)
  dsimp only [Pt.U, Pt.locs, Pt.cells, Pt.slots] at X4 l4 y4 z4 st4 hQ4
  subst l4 y4 z4
  obtain ⟨rfl, N4q, e4⟩ := hQ4
  have N4 := Fr.app N3 N4q
  have c5 : ∀ t, Steps p.tables e below (T4.setTop (mkF m 85 #[.val (.long q1), .second, .val (.long q2), .second, .val (.long q3), .second, .val (.int p4), .val (.long (q3 &&& (4611686018427387903 : Int64))), .second, .val (.long j8_L9), .second, .val (.long (((q2 &&& (9223372036854775807 : Int64)) - ((q2 &&& (9223372036854775807 : Int64)) / ((q3 &&& (4611686018427387903 : Int64)) + (1 : Int64))) * ((q3 &&& (4611686018427387903 : Int64)) + (1 : Int64))) - (1 : Int64))), .second, .val (.ref b1), .val (.long (own_len (((q2 &&& (9223372036854775807 : Int64)) - ((q2 &&& (9223372036854775807 : Int64)) / ((q3 &&& (4611686018427387903 : Int64)) + (1 : Int64))) * ((q3 &&& (4611686018427387903 : Int64)) + (1 : Int64))) - (1 : Int64)) j8_L9)), .second, .val (.int (own_sat j8_L9 (((q2 &&& (9223372036854775807 : Int64)) - ((q2 &&& (9223372036854775807 : Int64)) / ((q3 &&& (4611686018427387903 : Int64)) + (1 : Int64))) * ((q3 &&& (4611686018427387903 : Int64)) + (1 : Int64))) - (1 : Int64))))] [(.int (lcmpW j8_L9 (((q2 &&& (9223372036854775807 : Int64)) - ((q2 &&& (9223372036854775807 : Int64)) / ((q3 &&& (4611686018427387903 : Int64)) + (1 : Int64))) * ((q3 &&& (4611686018427387903 : Int64)) + (1 : Int64))) - (1 : Int64))))])) t → Steps p.tables e below (s₁.setTop (entryFrame m #[(.long q1), (.long q2), (.long q3), (.int p4)] maxLocals)) t := fun t kt => by
    refine pre0 _ ?_
    show Steps p.tables e below (s₁.setTop (mkF m 0 #[.val (.long q1), .second, .val (.long q2), .second, .val (.long q3), .second, .val (.int p4), .unset, .unset, .unset, .unset, .unset, .unset, .unset, .unset, .unset, .unset] [])) _
    refine XS.lload X0.here hx rfl (hb hby at_0) rfl ?_
    show Steps p.tables e below (s₁.setTop (mkF m 2 #[.val (.long q1), .second, .val (.long q2), .second, .val (.long q3), .second, .val (.int p4), .unset, .unset, .unset, .unset, .unset, .unset, .unset, .unset, .unset, .unset] [(.long q3)])) _
    refine X0.ldc2Long hx hown (mvT hZ (hw _ (List.mem_of_getElem? (i := 0) rfl))) (g := (mkF m 2 #[.val (.long q1), .second, .val (.long q2), .second, .val (.long q3), .second, .val (.int p4), .unset, .unset, .unset, .unset, .unset, .unset, .unset, .unset, .unset, .unset] [(.long q3)])) rfl (hb hby at_2) _ ?_
    show Steps p.tables e below (s₁.setTop (mkF m 5 #[.val (.long q1), .second, .val (.long q2), .second, .val (.long q3), .second, .val (.int p4), .unset, .unset, .unset, .unset, .unset, .unset, .unset, .unset, .unset, .unset] [(.long (4611686018427387903 : Int64)), (.long q3)])) _
    refine XS.land X0.here hx rfl (hb hby at_5) rfl ?_
    show Steps p.tables e below (s₁.setTop (mkF m 6 #[.val (.long q1), .second, .val (.long q2), .second, .val (.long q3), .second, .val (.int p4), .unset, .unset, .unset, .unset, .unset, .unset, .unset, .unset, .unset, .unset] [(.long (q3 &&& (4611686018427387903 : Int64)))])) _
    refine XS.lstore X0.here hx rfl (hb hby at_6) rfl (l' := #[.val (.long q1), .second, .val (.long q2), .second, .val (.long q3), .second, .val (.int p4), .val (.long (q3 &&& (4611686018427387903 : Int64))), .second, .unset, .unset, .unset, .unset, .unset, .unset, .unset, .unset]) rfl ?_
    show Steps p.tables e below (s₁.setTop (mkF m 8 #[.val (.long q1), .second, .val (.long q2), .second, .val (.long q3), .second, .val (.int p4), .val (.long (q3 &&& (4611686018427387903 : Int64))), .second, .unset, .unset, .unset, .unset, .unset, .unset, .unset, .unset] [])) _
    refine sg8 _ ?_
    show Steps p.tables e below (s₁.setTop (mkF m 37 #[.val (.long q1), .second, .val (.long q2), .second, .val (.long q3), .second, .val (.int p4), .val (.long (q3 &&& (4611686018427387903 : Int64))), .second, .val (.long j8_L9), .second, .unset, .unset, .unset, .unset, .unset, .unset] [])) _
    refine XS.lloadN X0.here hx rfl (hb hby at_37) rfl ?_
    show Steps p.tables e below (s₁.setTop (mkF m 38 #[.val (.long q1), .second, .val (.long q2), .second, .val (.long q3), .second, .val (.int p4), .val (.long (q3 &&& (4611686018427387903 : Int64))), .second, .val (.long j8_L9), .second, .unset, .unset, .unset, .unset, .unset, .unset] [(.long q2)])) _
    refine X0.ldc2Long hx hown (mvT hZ (hw _ (List.mem_of_getElem? (i := 1) rfl))) (g := (mkF m 38 #[.val (.long q1), .second, .val (.long q2), .second, .val (.long q3), .second, .val (.int p4), .val (.long (q3 &&& (4611686018427387903 : Int64))), .second, .val (.long j8_L9), .second, .unset, .unset, .unset, .unset, .unset, .unset] [(.long q2)])) rfl (hb hby at_38) _ ?_
    show Steps p.tables e below (s₁.setTop (mkF m 41 #[.val (.long q1), .second, .val (.long q2), .second, .val (.long q3), .second, .val (.int p4), .val (.long (q3 &&& (4611686018427387903 : Int64))), .second, .val (.long j8_L9), .second, .unset, .unset, .unset, .unset, .unset, .unset] [(.long (9223372036854775807 : Int64)), (.long q2)])) _
    refine XS.land X0.here hx rfl (hb hby at_41) rfl ?_
    show Steps p.tables e below (s₁.setTop (mkF m 42 #[.val (.long q1), .second, .val (.long q2), .second, .val (.long q3), .second, .val (.int p4), .val (.long (q3 &&& (4611686018427387903 : Int64))), .second, .val (.long j8_L9), .second, .unset, .unset, .unset, .unset, .unset, .unset] [(.long (q2 &&& (9223372036854775807 : Int64)))])) _
    refine XS.lload X0.here hx rfl (hb hby at_42) rfl ?_
    show Steps p.tables e below (s₁.setTop (mkF m 44 #[.val (.long q1), .second, .val (.long q2), .second, .val (.long q3), .second, .val (.int p4), .val (.long (q3 &&& (4611686018427387903 : Int64))), .second, .val (.long j8_L9), .second, .unset, .unset, .unset, .unset, .unset, .unset] [(.long (q3 &&& (4611686018427387903 : Int64))), (.long (q2 &&& (9223372036854775807 : Int64)))])) _
    refine XS.lconst X0.here hx rfl (hb hby at_44) ?_
    show Steps p.tables e below (s₁.setTop (mkF m 45 #[.val (.long q1), .second, .val (.long q2), .second, .val (.long q3), .second, .val (.int p4), .val (.long (q3 &&& (4611686018427387903 : Int64))), .second, .val (.long j8_L9), .second, .unset, .unset, .unset, .unset, .unset, .unset] [(.long (1 : Int64)), (.long (q3 &&& (4611686018427387903 : Int64))), (.long (q2 &&& (9223372036854775807 : Int64)))])) _
    refine XS.ladd X0.here hx rfl (hb hby at_45) rfl ?_
    show Steps p.tables e below (s₁.setTop (mkF m 46 #[.val (.long q1), .second, .val (.long q2), .second, .val (.long q3), .second, .val (.int p4), .val (.long (q3 &&& (4611686018427387903 : Int64))), .second, .val (.long j8_L9), .second, .unset, .unset, .unset, .unset, .unset, .unset] [(.long ((q3 &&& (4611686018427387903 : Int64)) + (1 : Int64))), (.long (q2 &&& (9223372036854775807 : Int64)))])) _
    refine XS.lrem X0.here hx rfl (hb hby at_46) rfl (own_nz q3) ?_
    show Steps p.tables e below (s₁.setTop (mkF m 47 #[.val (.long q1), .second, .val (.long q2), .second, .val (.long q3), .second, .val (.int p4), .val (.long (q3 &&& (4611686018427387903 : Int64))), .second, .val (.long j8_L9), .second, .unset, .unset, .unset, .unset, .unset, .unset] [(.long ((q2 &&& (9223372036854775807 : Int64)) - ((q2 &&& (9223372036854775807 : Int64)) / ((q3 &&& (4611686018427387903 : Int64)) + (1 : Int64))) * ((q3 &&& (4611686018427387903 : Int64)) + (1 : Int64))))])) _
    refine XS.lconst X0.here hx rfl (hb hby at_47) ?_
    show Steps p.tables e below (s₁.setTop (mkF m 48 #[.val (.long q1), .second, .val (.long q2), .second, .val (.long q3), .second, .val (.int p4), .val (.long (q3 &&& (4611686018427387903 : Int64))), .second, .val (.long j8_L9), .second, .unset, .unset, .unset, .unset, .unset, .unset] [(.long (1 : Int64)), (.long ((q2 &&& (9223372036854775807 : Int64)) - ((q2 &&& (9223372036854775807 : Int64)) / ((q3 &&& (4611686018427387903 : Int64)) + (1 : Int64))) * ((q3 &&& (4611686018427387903 : Int64)) + (1 : Int64))))])) _
    refine XS.lsub X0.here hx rfl (hb hby at_48) rfl ?_
    show Steps p.tables e below (s₁.setTop (mkF m 49 #[.val (.long q1), .second, .val (.long q2), .second, .val (.long q3), .second, .val (.int p4), .val (.long (q3 &&& (4611686018427387903 : Int64))), .second, .val (.long j8_L9), .second, .unset, .unset, .unset, .unset, .unset, .unset] [(.long (((q2 &&& (9223372036854775807 : Int64)) - ((q2 &&& (9223372036854775807 : Int64)) / ((q3 &&& (4611686018427387903 : Int64)) + (1 : Int64))) * ((q3 &&& (4611686018427387903 : Int64)) + (1 : Int64))) - (1 : Int64)))])) _
    refine XS.lstore X0.here hx rfl (hb hby at_49) rfl (l' := #[.val (.long q1), .second, .val (.long q2), .second, .val (.long q3), .second, .val (.int p4), .val (.long (q3 &&& (4611686018427387903 : Int64))), .second, .val (.long j8_L9), .second, .val (.long (((q2 &&& (9223372036854775807 : Int64)) - ((q2 &&& (9223372036854775807 : Int64)) / ((q3 &&& (4611686018427387903 : Int64)) + (1 : Int64))) * ((q3 &&& (4611686018427387903 : Int64)) + (1 : Int64))) - (1 : Int64))), .second, .unset, .unset, .unset, .unset]) rfl ?_
    show Steps p.tables e below (s₁.setTop (mkF m 51 #[.val (.long q1), .second, .val (.long q2), .second, .val (.long q3), .second, .val (.int p4), .val (.long (q3 &&& (4611686018427387903 : Int64))), .second, .val (.long j8_L9), .second, .val (.long (((q2 &&& (9223372036854775807 : Int64)) - ((q2 &&& (9223372036854775807 : Int64)) / ((q3 &&& (4611686018427387903 : Int64)) + (1 : Int64))) * ((q3 &&& (4611686018427387903 : Int64)) + (1 : Int64))) - (1 : Int64))), .second, .unset, .unset, .unset, .unset] [])) _
    refine st1 _ ?_
    show Steps p.tables e below (T1.setTop (mkF m 54 #[.val (.long q1), .second, .val (.long q2), .second, .val (.long q3), .second, .val (.int p4), .val (.long (q3 &&& (4611686018427387903 : Int64))), .second, .val (.long j8_L9), .second, .val (.long (((q2 &&& (9223372036854775807 : Int64)) - ((q2 &&& (9223372036854775807 : Int64)) / ((q3 &&& (4611686018427387903 : Int64)) + (1 : Int64))) * ((q3 &&& (4611686018427387903 : Int64)) + (1 : Int64))) - (1 : Int64))), .second, .unset, .unset, .unset, .unset] [(.ref b1)])) _
    refine XS.dup X1.here hx rfl (hb hby at_54) rfl rfl ?_
    show Steps p.tables e below (T1.setTop (mkF m 55 #[.val (.long q1), .second, .val (.long q2), .second, .val (.long q3), .second, .val (.int p4), .val (.long (q3 &&& (4611686018427387903 : Int64))), .second, .val (.long j8_L9), .second, .val (.long (((q2 &&& (9223372036854775807 : Int64)) - ((q2 &&& (9223372036854775807 : Int64)) / ((q3 &&& (4611686018427387903 : Int64)) + (1 : Int64))) * ((q3 &&& (4611686018427387903 : Int64)) + (1 : Int64))) - (1 : Int64))), .second, .unset, .unset, .unset, .unset] [(.ref b1), (.ref b1)])) _
    refine XS.lload X1.here hx rfl (hb hby at_55) rfl ?_
    show Steps p.tables e below (T1.setTop (mkF m 57 #[.val (.long q1), .second, .val (.long q2), .second, .val (.long q3), .second, .val (.int p4), .val (.long (q3 &&& (4611686018427387903 : Int64))), .second, .val (.long j8_L9), .second, .val (.long (((q2 &&& (9223372036854775807 : Int64)) - ((q2 &&& (9223372036854775807 : Int64)) / ((q3 &&& (4611686018427387903 : Int64)) + (1 : Int64))) * ((q3 &&& (4611686018427387903 : Int64)) + (1 : Int64))) - (1 : Int64))), .second, .unset, .unset, .unset, .unset] [(.long j8_L9), (.ref b1), (.ref b1)])) _
    refine XS.lload X1.here hx rfl (hb hby at_57) rfl ?_
    show Steps p.tables e below (T1.setTop (mkF m 59 #[.val (.long q1), .second, .val (.long q2), .second, .val (.long q3), .second, .val (.int p4), .val (.long (q3 &&& (4611686018427387903 : Int64))), .second, .val (.long j8_L9), .second, .val (.long (((q2 &&& (9223372036854775807 : Int64)) - ((q2 &&& (9223372036854775807 : Int64)) / ((q3 &&& (4611686018427387903 : Int64)) + (1 : Int64))) * ((q3 &&& (4611686018427387903 : Int64)) + (1 : Int64))) - (1 : Int64))), .second, .unset, .unset, .unset, .unset] [(.long (((q2 &&& (9223372036854775807 : Int64)) - ((q2 &&& (9223372036854775807 : Int64)) / ((q3 &&& (4611686018427387903 : Int64)) + (1 : Int64))) * ((q3 &&& (4611686018427387903 : Int64)) + (1 : Int64))) - (1 : Int64))), (.long j8_L9), (.ref b1), (.ref b1)])) _
    refine XS.lload X1.here hx rfl (hb hby at_59) rfl ?_
    show Steps p.tables e below (T1.setTop (mkF m 61 #[.val (.long q1), .second, .val (.long q2), .second, .val (.long q3), .second, .val (.int p4), .val (.long (q3 &&& (4611686018427387903 : Int64))), .second, .val (.long j8_L9), .second, .val (.long (((q2 &&& (9223372036854775807 : Int64)) - ((q2 &&& (9223372036854775807 : Int64)) / ((q3 &&& (4611686018427387903 : Int64)) + (1 : Int64))) * ((q3 &&& (4611686018427387903 : Int64)) + (1 : Int64))) - (1 : Int64))), .second, .unset, .unset, .unset, .unset] [(.long (q3 &&& (4611686018427387903 : Int64))), (.long (((q2 &&& (9223372036854775807 : Int64)) - ((q2 &&& (9223372036854775807 : Int64)) / ((q3 &&& (4611686018427387903 : Int64)) + (1 : Int64))) * ((q3 &&& (4611686018427387903 : Int64)) + (1 : Int64))) - (1 : Int64))), (.long j8_L9), (.ref b1), (.ref b1)])) _
    refine st2.trans ?_
    show Steps p.tables e below (T2.setTop (mkF m 64 #[.val (.long q1), .second, .val (.long q2), .second, .val (.long q3), .second, .val (.int p4), .val (.long (q3 &&& (4611686018427387903 : Int64))), .second, .val (.long j8_L9), .second, .val (.long (((q2 &&& (9223372036854775807 : Int64)) - ((q2 &&& (9223372036854775807 : Int64)) / ((q3 &&& (4611686018427387903 : Int64)) + (1 : Int64))) * ((q3 &&& (4611686018427387903 : Int64)) + (1 : Int64))) - (1 : Int64))), .second, .unset, .unset, .unset, .unset] [(.ref b1)])) _
    refine XS.astore X2.here hx rfl (hb hby at_64) rfl rfl (l' := #[.val (.long q1), .second, .val (.long q2), .second, .val (.long q3), .second, .val (.int p4), .val (.long (q3 &&& (4611686018427387903 : Int64))), .second, .val (.long j8_L9), .second, .val (.long (((q2 &&& (9223372036854775807 : Int64)) - ((q2 &&& (9223372036854775807 : Int64)) / ((q3 &&& (4611686018427387903 : Int64)) + (1 : Int64))) * ((q3 &&& (4611686018427387903 : Int64)) + (1 : Int64))) - (1 : Int64))), .second, .val (.ref b1), .unset, .unset, .unset]) rfl ?_
    show Steps p.tables e below (T2.setTop (mkF m 66 #[.val (.long q1), .second, .val (.long q2), .second, .val (.long q3), .second, .val (.int p4), .val (.long (q3 &&& (4611686018427387903 : Int64))), .second, .val (.long j8_L9), .second, .val (.long (((q2 &&& (9223372036854775807 : Int64)) - ((q2 &&& (9223372036854775807 : Int64)) / ((q3 &&& (4611686018427387903 : Int64)) + (1 : Int64))) * ((q3 &&& (4611686018427387903 : Int64)) + (1 : Int64))) - (1 : Int64))), .second, .val (.ref b1), .unset, .unset, .unset] [])) _
    refine XS.aload X2.here hx rfl (hb hby at_66) rfl rfl ?_
    show Steps p.tables e below (T2.setTop (mkF m 68 #[.val (.long q1), .second, .val (.long q2), .second, .val (.long q3), .second, .val (.int p4), .val (.long (q3 &&& (4611686018427387903 : Int64))), .second, .val (.long j8_L9), .second, .val (.long (((q2 &&& (9223372036854775807 : Int64)) - ((q2 &&& (9223372036854775807 : Int64)) / ((q3 &&& (4611686018427387903 : Int64)) + (1 : Int64))) * ((q3 &&& (4611686018427387903 : Int64)) + (1 : Int64))) - (1 : Int64))), .second, .val (.ref b1), .unset, .unset, .unset] [(.ref b1)])) _
    refine st3.trans ?_
    show Steps p.tables e below (T3.setTop (mkF m 71 #[.val (.long q1), .second, .val (.long q2), .second, .val (.long q3), .second, .val (.int p4), .val (.long (q3 &&& (4611686018427387903 : Int64))), .second, .val (.long j8_L9), .second, .val (.long (((q2 &&& (9223372036854775807 : Int64)) - ((q2 &&& (9223372036854775807 : Int64)) / ((q3 &&& (4611686018427387903 : Int64)) + (1 : Int64))) * ((q3 &&& (4611686018427387903 : Int64)) + (1 : Int64))) - (1 : Int64))), .second, .val (.ref b1), .unset, .unset, .unset] [(.long (own_len (((q2 &&& (9223372036854775807 : Int64)) - ((q2 &&& (9223372036854775807 : Int64)) / ((q3 &&& (4611686018427387903 : Int64)) + (1 : Int64))) * ((q3 &&& (4611686018427387903 : Int64)) + (1 : Int64))) - (1 : Int64)) j8_L9))])) _
    refine XS.lstore X3.here hx rfl (hb hby at_71) rfl (l' := #[.val (.long q1), .second, .val (.long q2), .second, .val (.long q3), .second, .val (.int p4), .val (.long (q3 &&& (4611686018427387903 : Int64))), .second, .val (.long j8_L9), .second, .val (.long (((q2 &&& (9223372036854775807 : Int64)) - ((q2 &&& (9223372036854775807 : Int64)) / ((q3 &&& (4611686018427387903 : Int64)) + (1 : Int64))) * ((q3 &&& (4611686018427387903 : Int64)) + (1 : Int64))) - (1 : Int64))), .second, .val (.ref b1), .val (.long (own_len (((q2 &&& (9223372036854775807 : Int64)) - ((q2 &&& (9223372036854775807 : Int64)) / ((q3 &&& (4611686018427387903 : Int64)) + (1 : Int64))) * ((q3 &&& (4611686018427387903 : Int64)) + (1 : Int64))) - (1 : Int64)) j8_L9)), .second, .unset]) rfl ?_
    show Steps p.tables e below (T3.setTop (mkF m 73 #[.val (.long q1), .second, .val (.long q2), .second, .val (.long q3), .second, .val (.int p4), .val (.long (q3 &&& (4611686018427387903 : Int64))), .second, .val (.long j8_L9), .second, .val (.long (((q2 &&& (9223372036854775807 : Int64)) - ((q2 &&& (9223372036854775807 : Int64)) / ((q3 &&& (4611686018427387903 : Int64)) + (1 : Int64))) * ((q3 &&& (4611686018427387903 : Int64)) + (1 : Int64))) - (1 : Int64))), .second, .val (.ref b1), .val (.long (own_len (((q2 &&& (9223372036854775807 : Int64)) - ((q2 &&& (9223372036854775807 : Int64)) / ((q3 &&& (4611686018427387903 : Int64)) + (1 : Int64))) * ((q3 &&& (4611686018427387903 : Int64)) + (1 : Int64))) - (1 : Int64)) j8_L9)), .second, .unset] [])) _
    refine XS.aload X3.here hx rfl (hb hby at_73) rfl rfl ?_
    show Steps p.tables e below (T3.setTop (mkF m 75 #[.val (.long q1), .second, .val (.long q2), .second, .val (.long q3), .second, .val (.int p4), .val (.long (q3 &&& (4611686018427387903 : Int64))), .second, .val (.long j8_L9), .second, .val (.long (((q2 &&& (9223372036854775807 : Int64)) - ((q2 &&& (9223372036854775807 : Int64)) / ((q3 &&& (4611686018427387903 : Int64)) + (1 : Int64))) * ((q3 &&& (4611686018427387903 : Int64)) + (1 : Int64))) - (1 : Int64))), .second, .val (.ref b1), .val (.long (own_len (((q2 &&& (9223372036854775807 : Int64)) - ((q2 &&& (9223372036854775807 : Int64)) / ((q3 &&& (4611686018427387903 : Int64)) + (1 : Int64))) * ((q3 &&& (4611686018427387903 : Int64)) + (1 : Int64))) - (1 : Int64)) j8_L9)), .second, .unset] [(.ref b1)])) _
    refine st4.trans ?_
    show Steps p.tables e below (T4.setTop (mkF m 78 #[.val (.long q1), .second, .val (.long q2), .second, .val (.long q3), .second, .val (.int p4), .val (.long (q3 &&& (4611686018427387903 : Int64))), .second, .val (.long j8_L9), .second, .val (.long (((q2 &&& (9223372036854775807 : Int64)) - ((q2 &&& (9223372036854775807 : Int64)) / ((q3 &&& (4611686018427387903 : Int64)) + (1 : Int64))) * ((q3 &&& (4611686018427387903 : Int64)) + (1 : Int64))) - (1 : Int64))), .second, .val (.ref b1), .val (.long (own_len (((q2 &&& (9223372036854775807 : Int64)) - ((q2 &&& (9223372036854775807 : Int64)) / ((q3 &&& (4611686018427387903 : Int64)) + (1 : Int64))) * ((q3 &&& (4611686018427387903 : Int64)) + (1 : Int64))) - (1 : Int64)) j8_L9)), .second, .unset] [(.int (own_sat j8_L9 (((q2 &&& (9223372036854775807 : Int64)) - ((q2 &&& (9223372036854775807 : Int64)) / ((q3 &&& (4611686018427387903 : Int64)) + (1 : Int64))) * ((q3 &&& (4611686018427387903 : Int64)) + (1 : Int64))) - (1 : Int64))))])) _
    refine XS.istore X4.here hx rfl (hb hby at_78) rfl (l' := #[.val (.long q1), .second, .val (.long q2), .second, .val (.long q3), .second, .val (.int p4), .val (.long (q3 &&& (4611686018427387903 : Int64))), .second, .val (.long j8_L9), .second, .val (.long (((q2 &&& (9223372036854775807 : Int64)) - ((q2 &&& (9223372036854775807 : Int64)) / ((q3 &&& (4611686018427387903 : Int64)) + (1 : Int64))) * ((q3 &&& (4611686018427387903 : Int64)) + (1 : Int64))) - (1 : Int64))), .second, .val (.ref b1), .val (.long (own_len (((q2 &&& (9223372036854775807 : Int64)) - ((q2 &&& (9223372036854775807 : Int64)) / ((q3 &&& (4611686018427387903 : Int64)) + (1 : Int64))) * ((q3 &&& (4611686018427387903 : Int64)) + (1 : Int64))) - (1 : Int64)) j8_L9)), .second, .val (.int (own_sat j8_L9 (((q2 &&& (9223372036854775807 : Int64)) - ((q2 &&& (9223372036854775807 : Int64)) / ((q3 &&& (4611686018427387903 : Int64)) + (1 : Int64))) * ((q3 &&& (4611686018427387903 : Int64)) + (1 : Int64))) - (1 : Int64))))]) rfl ?_
    show Steps p.tables e below (T4.setTop (mkF m 80 #[.val (.long q1), .second, .val (.long q2), .second, .val (.long q3), .second, .val (.int p4), .val (.long (q3 &&& (4611686018427387903 : Int64))), .second, .val (.long j8_L9), .second, .val (.long (((q2 &&& (9223372036854775807 : Int64)) - ((q2 &&& (9223372036854775807 : Int64)) / ((q3 &&& (4611686018427387903 : Int64)) + (1 : Int64))) * ((q3 &&& (4611686018427387903 : Int64)) + (1 : Int64))) - (1 : Int64))), .second, .val (.ref b1), .val (.long (own_len (((q2 &&& (9223372036854775807 : Int64)) - ((q2 &&& (9223372036854775807 : Int64)) / ((q3 &&& (4611686018427387903 : Int64)) + (1 : Int64))) * ((q3 &&& (4611686018427387903 : Int64)) + (1 : Int64))) - (1 : Int64)) j8_L9)), .second, .val (.int (own_sat j8_L9 (((q2 &&& (9223372036854775807 : Int64)) - ((q2 &&& (9223372036854775807 : Int64)) / ((q3 &&& (4611686018427387903 : Int64)) + (1 : Int64))) * ((q3 &&& (4611686018427387903 : Int64)) + (1 : Int64))) - (1 : Int64))))] [])) _
    refine XS.lload X4.here hx rfl (hb hby at_80) rfl ?_
    show Steps p.tables e below (T4.setTop (mkF m 82 #[.val (.long q1), .second, .val (.long q2), .second, .val (.long q3), .second, .val (.int p4), .val (.long (q3 &&& (4611686018427387903 : Int64))), .second, .val (.long j8_L9), .second, .val (.long (((q2 &&& (9223372036854775807 : Int64)) - ((q2 &&& (9223372036854775807 : Int64)) / ((q3 &&& (4611686018427387903 : Int64)) + (1 : Int64))) * ((q3 &&& (4611686018427387903 : Int64)) + (1 : Int64))) - (1 : Int64))), .second, .val (.ref b1), .val (.long (own_len (((q2 &&& (9223372036854775807 : Int64)) - ((q2 &&& (9223372036854775807 : Int64)) / ((q3 &&& (4611686018427387903 : Int64)) + (1 : Int64))) * ((q3 &&& (4611686018427387903 : Int64)) + (1 : Int64))) - (1 : Int64)) j8_L9)), .second, .val (.int (own_sat j8_L9 (((q2 &&& (9223372036854775807 : Int64)) - ((q2 &&& (9223372036854775807 : Int64)) / ((q3 &&& (4611686018427387903 : Int64)) + (1 : Int64))) * ((q3 &&& (4611686018427387903 : Int64)) + (1 : Int64))) - (1 : Int64))))] [(.long j8_L9)])) _
    refine XS.lload X4.here hx rfl (hb hby at_82) rfl ?_
    show Steps p.tables e below (T4.setTop (mkF m 84 #[.val (.long q1), .second, .val (.long q2), .second, .val (.long q3), .second, .val (.int p4), .val (.long (q3 &&& (4611686018427387903 : Int64))), .second, .val (.long j8_L9), .second, .val (.long (((q2 &&& (9223372036854775807 : Int64)) - ((q2 &&& (9223372036854775807 : Int64)) / ((q3 &&& (4611686018427387903 : Int64)) + (1 : Int64))) * ((q3 &&& (4611686018427387903 : Int64)) + (1 : Int64))) - (1 : Int64))), .second, .val (.ref b1), .val (.long (own_len (((q2 &&& (9223372036854775807 : Int64)) - ((q2 &&& (9223372036854775807 : Int64)) / ((q3 &&& (4611686018427387903 : Int64)) + (1 : Int64))) * ((q3 &&& (4611686018427387903 : Int64)) + (1 : Int64))) - (1 : Int64)) j8_L9)), .second, .val (.int (own_sat j8_L9 (((q2 &&& (9223372036854775807 : Int64)) - ((q2 &&& (9223372036854775807 : Int64)) / ((q3 &&& (4611686018427387903 : Int64)) + (1 : Int64))) * ((q3 &&& (4611686018427387903 : Int64)) + (1 : Int64))) - (1 : Int64))))] [(.long (((q2 &&& (9223372036854775807 : Int64)) - ((q2 &&& (9223372036854775807 : Int64)) / ((q3 &&& (4611686018427387903 : Int64)) + (1 : Int64))) * ((q3 &&& (4611686018427387903 : Int64)) + (1 : Int64))) - (1 : Int64))), (.long j8_L9)])) _
    refine XS.lcmp X4.here hx rfl (hb hby at_84) rfl ?_
    exact kt
  by_cases hc85 : (((q2 &&& (9223372036854775807 : Int64)) - ((q2 &&& (9223372036854775807 : Int64)) / ((q3 &&& (4611686018427387903 : Int64)) + (1 : Int64))) * ((q3 &&& (4611686018427387903 : Int64)) + (1 : Int64))) - (1 : Int64)) < j8_L9
  · obtain ⟨fs, hr, hrun, hended, hW, hsame⟩ := X4.leave (v := some (.int (1 : Int32))) (fun h => by rw [Bd.returns] at h; cases h)
    refine ⟨_, _, c5 _ ?_, hrun, hended, _, _, rfl, ?_, ⟨_, rfl⟩, hW, hsame.mono (by decide) (by decide)⟩
    · show Steps p.tables e below (T4.setTop (mkF m 85 #[.val (.long q1), .second, .val (.long q2), .second, .val (.long q3), .second, .val (.int p4), .val (.long (q3 &&& (4611686018427387903 : Int64))), .second, .val (.long j8_L9), .second, .val (.long (((q2 &&& (9223372036854775807 : Int64)) - ((q2 &&& (9223372036854775807 : Int64)) / ((q3 &&& (4611686018427387903 : Int64)) + (1 : Int64))) * ((q3 &&& (4611686018427387903 : Int64)) + (1 : Int64))) - (1 : Int64))), .second, .val (.ref b1), .val (.long (own_len (((q2 &&& (9223372036854775807 : Int64)) - ((q2 &&& (9223372036854775807 : Int64)) / ((q3 &&& (4611686018427387903 : Int64)) + (1 : Int64))) * ((q3 &&& (4611686018427387903 : Int64)) + (1 : Int64))) - (1 : Int64)) j8_L9)), .second, .val (.int (own_sat j8_L9 (((q2 &&& (9223372036854775807 : Int64)) - ((q2 &&& (9223372036854775807 : Int64)) / ((q3 &&& (4611686018427387903 : Int64)) + (1 : Int64))) * ((q3 &&& (4611686018427387903 : Int64)) + (1 : Int64))) - (1 : Int64))))] [(.int (lcmpW j8_L9 (((q2 &&& (9223372036854775807 : Int64)) - ((q2 &&& (9223372036854775807 : Int64)) / ((q3 &&& (4611686018427387903 : Int64)) + (1 : Int64))) * ((q3 &&& (4611686018427387903 : Int64)) + (1 : Int64))) - (1 : Int64))))])) _
      refine XS.ifYes X4.here hx rfl (pc0 := 85) (pc' := 130) rfl (hb hby at_85) rfl ((if0 _ _).trans (tlt ((lw_gt j8_L9 (((q2 &&& (9223372036854775807 : Int64)) - ((q2 &&& (9223372036854775807 : Int64)) / ((q3 &&& (4611686018427387903 : Int64)) + (1 : Int64))) * ((q3 &&& (4611686018427387903 : Int64)) + (1 : Int64))) - (1 : Int64))).mpr hc85)).2.2.1) (by decide) (by decide) ?_
      show Steps p.tables e below (T4.setTop (mkF m 130 #[.val (.long q1), .second, .val (.long q2), .second, .val (.long q3), .second, .val (.int p4), .val (.long (q3 &&& (4611686018427387903 : Int64))), .second, .val (.long j8_L9), .second, .val (.long (((q2 &&& (9223372036854775807 : Int64)) - ((q2 &&& (9223372036854775807 : Int64)) / ((q3 &&& (4611686018427387903 : Int64)) + (1 : Int64))) * ((q3 &&& (4611686018427387903 : Int64)) + (1 : Int64))) - (1 : Int64))), .second, .val (.ref b1), .val (.long (own_len (((q2 &&& (9223372036854775807 : Int64)) - ((q2 &&& (9223372036854775807 : Int64)) / ((q3 &&& (4611686018427387903 : Int64)) + (1 : Int64))) * ((q3 &&& (4611686018427387903 : Int64)) + (1 : Int64))) - (1 : Int64)) j8_L9)), .second, .val (.int (own_sat j8_L9 (((q2 &&& (9223372036854775807 : Int64)) - ((q2 &&& (9223372036854775807 : Int64)) / ((q3 &&& (4611686018427387903 : Int64)) + (1 : Int64))) * ((q3 &&& (4611686018427387903 : Int64)) + (1 : Int64))) - (1 : Int64))))] [])) _
      refine XS.iload X4.here hx rfl (hb hby at_130) rfl ?_
      show Steps p.tables e below (T4.setTop (mkF m 132 #[.val (.long q1), .second, .val (.long q2), .second, .val (.long q3), .second, .val (.int p4), .val (.long (q3 &&& (4611686018427387903 : Int64))), .second, .val (.long j8_L9), .second, .val (.long (((q2 &&& (9223372036854775807 : Int64)) - ((q2 &&& (9223372036854775807 : Int64)) / ((q3 &&& (4611686018427387903 : Int64)) + (1 : Int64))) * ((q3 &&& (4611686018427387903 : Int64)) + (1 : Int64))) - (1 : Int64))), .second, .val (.ref b1), .val (.long (own_len (((q2 &&& (9223372036854775807 : Int64)) - ((q2 &&& (9223372036854775807 : Int64)) / ((q3 &&& (4611686018427387903 : Int64)) + (1 : Int64))) * ((q3 &&& (4611686018427387903 : Int64)) + (1 : Int64))) - (1 : Int64)) j8_L9)), .second, .val (.int (own_sat j8_L9 (((q2 &&& (9223372036854775807 : Int64)) - ((q2 &&& (9223372036854775807 : Int64)) / ((q3 &&& (4611686018427387903 : Int64)) + (1 : Int64))) * ((q3 &&& (4611686018427387903 : Int64)) + (1 : Int64))) - (1 : Int64))))] [(.int (own_sat j8_L9 (((q2 &&& (9223372036854775807 : Int64)) - ((q2 &&& (9223372036854775807 : Int64)) / ((q3 &&& (4611686018427387903 : Int64)) + (1 : Int64))) * ((q3 &&& (4611686018427387903 : Int64)) + (1 : Int64))) - (1 : Int64))))])) _
      refine XS.ifNo X4.here hx rfl (hb hby at_132) rfl ((if0 _ _).trans (teq (own_sat0 _ _ hc85)).2) ?_
      show Steps p.tables e below (T4.setTop (mkF m 135 #[.val (.long q1), .second, .val (.long q2), .second, .val (.long q3), .second, .val (.int p4), .val (.long (q3 &&& (4611686018427387903 : Int64))), .second, .val (.long j8_L9), .second, .val (.long (((q2 &&& (9223372036854775807 : Int64)) - ((q2 &&& (9223372036854775807 : Int64)) / ((q3 &&& (4611686018427387903 : Int64)) + (1 : Int64))) * ((q3 &&& (4611686018427387903 : Int64)) + (1 : Int64))) - (1 : Int64))), .second, .val (.ref b1), .val (.long (own_len (((q2 &&& (9223372036854775807 : Int64)) - ((q2 &&& (9223372036854775807 : Int64)) / ((q3 &&& (4611686018427387903 : Int64)) + (1 : Int64))) * ((q3 &&& (4611686018427387903 : Int64)) + (1 : Int64))) - (1 : Int64)) j8_L9)), .second, .val (.int (own_sat j8_L9 (((q2 &&& (9223372036854775807 : Int64)) - ((q2 &&& (9223372036854775807 : Int64)) / ((q3 &&& (4611686018427387903 : Int64)) + (1 : Int64))) * ((q3 &&& (4611686018427387903 : Int64)) + (1 : Int64))) - (1 : Int64))))] [])) _
      refine XS.lload X4.here hx rfl (hb hby at_135) rfl ?_
      show Steps p.tables e below (T4.setTop (mkF m 137 #[.val (.long q1), .second, .val (.long q2), .second, .val (.long q3), .second, .val (.int p4), .val (.long (q3 &&& (4611686018427387903 : Int64))), .second, .val (.long j8_L9), .second, .val (.long (((q2 &&& (9223372036854775807 : Int64)) - ((q2 &&& (9223372036854775807 : Int64)) / ((q3 &&& (4611686018427387903 : Int64)) + (1 : Int64))) * ((q3 &&& (4611686018427387903 : Int64)) + (1 : Int64))) - (1 : Int64))), .second, .val (.ref b1), .val (.long (own_len (((q2 &&& (9223372036854775807 : Int64)) - ((q2 &&& (9223372036854775807 : Int64)) / ((q3 &&& (4611686018427387903 : Int64)) + (1 : Int64))) * ((q3 &&& (4611686018427387903 : Int64)) + (1 : Int64))) - (1 : Int64)) j8_L9)), .second, .val (.int (own_sat j8_L9 (((q2 &&& (9223372036854775807 : Int64)) - ((q2 &&& (9223372036854775807 : Int64)) / ((q3 &&& (4611686018427387903 : Int64)) + (1 : Int64))) * ((q3 &&& (4611686018427387903 : Int64)) + (1 : Int64))) - (1 : Int64))))] [(.long (own_len (((q2 &&& (9223372036854775807 : Int64)) - ((q2 &&& (9223372036854775807 : Int64)) / ((q3 &&& (4611686018427387903 : Int64)) + (1 : Int64))) * ((q3 &&& (4611686018427387903 : Int64)) + (1 : Int64))) - (1 : Int64)) j8_L9))])) _
      refine XS.lconst X4.here hx rfl (hb hby at_137) ?_
      show Steps p.tables e below (T4.setTop (mkF m 138 #[.val (.long q1), .second, .val (.long q2), .second, .val (.long q3), .second, .val (.int p4), .val (.long (q3 &&& (4611686018427387903 : Int64))), .second, .val (.long j8_L9), .second, .val (.long (((q2 &&& (9223372036854775807 : Int64)) - ((q2 &&& (9223372036854775807 : Int64)) / ((q3 &&& (4611686018427387903 : Int64)) + (1 : Int64))) * ((q3 &&& (4611686018427387903 : Int64)) + (1 : Int64))) - (1 : Int64))), .second, .val (.ref b1), .val (.long (own_len (((q2 &&& (9223372036854775807 : Int64)) - ((q2 &&& (9223372036854775807 : Int64)) / ((q3 &&& (4611686018427387903 : Int64)) + (1 : Int64))) * ((q3 &&& (4611686018427387903 : Int64)) + (1 : Int64))) - (1 : Int64)) j8_L9)), .second, .val (.int (own_sat j8_L9 (((q2 &&& (9223372036854775807 : Int64)) - ((q2 &&& (9223372036854775807 : Int64)) / ((q3 &&& (4611686018427387903 : Int64)) + (1 : Int64))) * ((q3 &&& (4611686018427387903 : Int64)) + (1 : Int64))) - (1 : Int64))))] [(.long (0 : Int64)), (.long (own_len (((q2 &&& (9223372036854775807 : Int64)) - ((q2 &&& (9223372036854775807 : Int64)) / ((q3 &&& (4611686018427387903 : Int64)) + (1 : Int64))) * ((q3 &&& (4611686018427387903 : Int64)) + (1 : Int64))) - (1 : Int64)) j8_L9))])) _
      refine XS.lcmp X4.here hx rfl (hb hby at_138) rfl ?_
      show Steps p.tables e below (T4.setTop (mkF m 139 #[.val (.long q1), .second, .val (.long q2), .second, .val (.long q3), .second, .val (.int p4), .val (.long (q3 &&& (4611686018427387903 : Int64))), .second, .val (.long j8_L9), .second, .val (.long (((q2 &&& (9223372036854775807 : Int64)) - ((q2 &&& (9223372036854775807 : Int64)) / ((q3 &&& (4611686018427387903 : Int64)) + (1 : Int64))) * ((q3 &&& (4611686018427387903 : Int64)) + (1 : Int64))) - (1 : Int64))), .second, .val (.ref b1), .val (.long (own_len (((q2 &&& (9223372036854775807 : Int64)) - ((q2 &&& (9223372036854775807 : Int64)) / ((q3 &&& (4611686018427387903 : Int64)) + (1 : Int64))) * ((q3 &&& (4611686018427387903 : Int64)) + (1 : Int64))) - (1 : Int64)) j8_L9)), .second, .val (.int (own_sat j8_L9 (((q2 &&& (9223372036854775807 : Int64)) - ((q2 &&& (9223372036854775807 : Int64)) / ((q3 &&& (4611686018427387903 : Int64)) + (1 : Int64))) * ((q3 &&& (4611686018427387903 : Int64)) + (1 : Int64))) - (1 : Int64))))] [(.int (lcmpW (own_len (((q2 &&& (9223372036854775807 : Int64)) - ((q2 &&& (9223372036854775807 : Int64)) / ((q3 &&& (4611686018427387903 : Int64)) + (1 : Int64))) * ((q3 &&& (4611686018427387903 : Int64)) + (1 : Int64))) - (1 : Int64)) j8_L9) (0 : Int64)))])) _
      refine XS.ifNo X4.here hx rfl (hb hby at_139) rfl ((if0 _ _).trans (flt (fun q => (own_c139 _ _ (own_first q1 q3 p4 _ ej8_L9) (own_last q2 q3).1 (Int.lt_trans (own_last q2 q3).2 (own_size q3).2) hc85) ((lw_gt (own_len (((q2 &&& (9223372036854775807 : Int64)) - ((q2 &&& (9223372036854775807 : Int64)) / ((q3 &&& (4611686018427387903 : Int64)) + (1 : Int64))) * ((q3 &&& (4611686018427387903 : Int64)) + (1 : Int64))) - (1 : Int64)) j8_L9) (0 : Int64)).mp q))).2.2.1) ?_
      show Steps p.tables e below (T4.setTop (mkF m 142 #[.val (.long q1), .second, .val (.long q2), .second, .val (.long q3), .second, .val (.int p4), .val (.long (q3 &&& (4611686018427387903 : Int64))), .second, .val (.long j8_L9), .second, .val (.long (((q2 &&& (9223372036854775807 : Int64)) - ((q2 &&& (9223372036854775807 : Int64)) / ((q3 &&& (4611686018427387903 : Int64)) + (1 : Int64))) * ((q3 &&& (4611686018427387903 : Int64)) + (1 : Int64))) - (1 : Int64))), .second, .val (.ref b1), .val (.long (own_len (((q2 &&& (9223372036854775807 : Int64)) - ((q2 &&& (9223372036854775807 : Int64)) / ((q3 &&& (4611686018427387903 : Int64)) + (1 : Int64))) * ((q3 &&& (4611686018427387903 : Int64)) + (1 : Int64))) - (1 : Int64)) j8_L9)), .second, .val (.int (own_sat j8_L9 (((q2 &&& (9223372036854775807 : Int64)) - ((q2 &&& (9223372036854775807 : Int64)) / ((q3 &&& (4611686018427387903 : Int64)) + (1 : Int64))) * ((q3 &&& (4611686018427387903 : Int64)) + (1 : Int64))) - (1 : Int64))))] [])) _
      refine XS.iconst X4.here hx rfl (hb hby at_142) ?_
      show Steps p.tables e below (T4.setTop (mkF m 143 #[.val (.long q1), .second, .val (.long q2), .second, .val (.long q3), .second, .val (.int p4), .val (.long (q3 &&& (4611686018427387903 : Int64))), .second, .val (.long j8_L9), .second, .val (.long (((q2 &&& (9223372036854775807 : Int64)) - ((q2 &&& (9223372036854775807 : Int64)) / ((q3 &&& (4611686018427387903 : Int64)) + (1 : Int64))) * ((q3 &&& (4611686018427387903 : Int64)) + (1 : Int64))) - (1 : Int64))), .second, .val (.ref b1), .val (.long (own_len (((q2 &&& (9223372036854775807 : Int64)) - ((q2 &&& (9223372036854775807 : Int64)) / ((q3 &&& (4611686018427387903 : Int64)) + (1 : Int64))) * ((q3 &&& (4611686018427387903 : Int64)) + (1 : Int64))) - (1 : Int64)) j8_L9)), .second, .val (.int (own_sat j8_L9 (((q2 &&& (9223372036854775807 : Int64)) - ((q2 &&& (9223372036854775807 : Int64)) / ((q3 &&& (4611686018427387903 : Int64)) + (1 : Int64))) * ((q3 &&& (4611686018427387903 : Int64)) + (1 : Int64))) - (1 : Int64))))] [(.int (1 : Int32))])) _
      refine XS.goto X4.here hx rfl (pc0 := 143) (pc' := 147) rfl (hb hby at_143) (by decide) (by decide) ?_
      show Steps p.tables e below (T4.setTop (mkF m 147 #[.val (.long q1), .second, .val (.long q2), .second, .val (.long q3), .second, .val (.int p4), .val (.long (q3 &&& (4611686018427387903 : Int64))), .second, .val (.long j8_L9), .second, .val (.long (((q2 &&& (9223372036854775807 : Int64)) - ((q2 &&& (9223372036854775807 : Int64)) / ((q3 &&& (4611686018427387903 : Int64)) + (1 : Int64))) * ((q3 &&& (4611686018427387903 : Int64)) + (1 : Int64))) - (1 : Int64))), .second, .val (.ref b1), .val (.long (own_len (((q2 &&& (9223372036854775807 : Int64)) - ((q2 &&& (9223372036854775807 : Int64)) / ((q3 &&& (4611686018427387903 : Int64)) + (1 : Int64))) * ((q3 &&& (4611686018427387903 : Int64)) + (1 : Int64))) - (1 : Int64)) j8_L9)), .second, .val (.int (own_sat j8_L9 (((q2 &&& (9223372036854775807 : Int64)) - ((q2 &&& (9223372036854775807 : Int64)) / ((q3 &&& (4611686018427387903 : Int64)) + (1 : Int64))) * ((q3 &&& (4611686018427387903 : Int64)) + (1 : Int64))) - (1 : Int64))))] [(.int (1 : Int32))])) _
      exact retN X4 hx (t := .boolean) Bd.returns (by simp) (hb hby at_147) hr
    · show Q0 Z q1 q2 q3 p4 h0 n0 _ T4.heap _
      rw [e4]
      exact ⟨rfl, N4⟩
  · obtain ⟨fs, hr, hrun, hended, hW, hsame⟩ := X4.leave (v := some (.int (1 : Int32))) (fun h => by rw [Bd.returns] at h; cases h)
    refine ⟨_, _, c5 _ ?_, hrun, hended, _, _, rfl, ?_, ⟨_, rfl⟩, hW, hsame.mono (by decide) (by decide)⟩
    · show Steps p.tables e below (T4.setTop (mkF m 85 #[.val (.long q1), .second, .val (.long q2), .second, .val (.long q3), .second, .val (.int p4), .val (.long (q3 &&& (4611686018427387903 : Int64))), .second, .val (.long j8_L9), .second, .val (.long (((q2 &&& (9223372036854775807 : Int64)) - ((q2 &&& (9223372036854775807 : Int64)) / ((q3 &&& (4611686018427387903 : Int64)) + (1 : Int64))) * ((q3 &&& (4611686018427387903 : Int64)) + (1 : Int64))) - (1 : Int64))), .second, .val (.ref b1), .val (.long (own_len (((q2 &&& (9223372036854775807 : Int64)) - ((q2 &&& (9223372036854775807 : Int64)) / ((q3 &&& (4611686018427387903 : Int64)) + (1 : Int64))) * ((q3 &&& (4611686018427387903 : Int64)) + (1 : Int64))) - (1 : Int64)) j8_L9)), .second, .val (.int (own_sat j8_L9 (((q2 &&& (9223372036854775807 : Int64)) - ((q2 &&& (9223372036854775807 : Int64)) / ((q3 &&& (4611686018427387903 : Int64)) + (1 : Int64))) * ((q3 &&& (4611686018427387903 : Int64)) + (1 : Int64))) - (1 : Int64))))] [(.int (lcmpW j8_L9 (((q2 &&& (9223372036854775807 : Int64)) - ((q2 &&& (9223372036854775807 : Int64)) / ((q3 &&& (4611686018427387903 : Int64)) + (1 : Int64))) * ((q3 &&& (4611686018427387903 : Int64)) + (1 : Int64))) - (1 : Int64))))])) _
      refine XS.ifNo X4.here hx rfl (hb hby at_85) rfl ((if0 _ _).trans (flt (fun q => hc85 ((lw_gt j8_L9 (((q2 &&& (9223372036854775807 : Int64)) - ((q2 &&& (9223372036854775807 : Int64)) / ((q3 &&& (4611686018427387903 : Int64)) + (1 : Int64))) * ((q3 &&& (4611686018427387903 : Int64)) + (1 : Int64))) - (1 : Int64))).mp q))).2.2.1) ?_
      show Steps p.tables e below (T4.setTop (mkF m 88 #[.val (.long q1), .second, .val (.long q2), .second, .val (.long q3), .second, .val (.int p4), .val (.long (q3 &&& (4611686018427387903 : Int64))), .second, .val (.long j8_L9), .second, .val (.long (((q2 &&& (9223372036854775807 : Int64)) - ((q2 &&& (9223372036854775807 : Int64)) / ((q3 &&& (4611686018427387903 : Int64)) + (1 : Int64))) * ((q3 &&& (4611686018427387903 : Int64)) + (1 : Int64))) - (1 : Int64))), .second, .val (.ref b1), .val (.long (own_len (((q2 &&& (9223372036854775807 : Int64)) - ((q2 &&& (9223372036854775807 : Int64)) / ((q3 &&& (4611686018427387903 : Int64)) + (1 : Int64))) * ((q3 &&& (4611686018427387903 : Int64)) + (1 : Int64))) - (1 : Int64)) j8_L9)), .second, .val (.int (own_sat j8_L9 (((q2 &&& (9223372036854775807 : Int64)) - ((q2 &&& (9223372036854775807 : Int64)) / ((q3 &&& (4611686018427387903 : Int64)) + (1 : Int64))) * ((q3 &&& (4611686018427387903 : Int64)) + (1 : Int64))) - (1 : Int64))))] [])) _
      refine XS.iload X4.here hx rfl (hb hby at_88) rfl ?_
      show Steps p.tables e below (T4.setTop (mkF m 90 #[.val (.long q1), .second, .val (.long q2), .second, .val (.long q3), .second, .val (.int p4), .val (.long (q3 &&& (4611686018427387903 : Int64))), .second, .val (.long j8_L9), .second, .val (.long (((q2 &&& (9223372036854775807 : Int64)) - ((q2 &&& (9223372036854775807 : Int64)) / ((q3 &&& (4611686018427387903 : Int64)) + (1 : Int64))) * ((q3 &&& (4611686018427387903 : Int64)) + (1 : Int64))) - (1 : Int64))), .second, .val (.ref b1), .val (.long (own_len (((q2 &&& (9223372036854775807 : Int64)) - ((q2 &&& (9223372036854775807 : Int64)) / ((q3 &&& (4611686018427387903 : Int64)) + (1 : Int64))) * ((q3 &&& (4611686018427387903 : Int64)) + (1 : Int64))) - (1 : Int64)) j8_L9)), .second, .val (.int (own_sat j8_L9 (((q2 &&& (9223372036854775807 : Int64)) - ((q2 &&& (9223372036854775807 : Int64)) / ((q3 &&& (4611686018427387903 : Int64)) + (1 : Int64))) * ((q3 &&& (4611686018427387903 : Int64)) + (1 : Int64))) - (1 : Int64))))] [(.int (own_sat j8_L9 (((q2 &&& (9223372036854775807 : Int64)) - ((q2 &&& (9223372036854775807 : Int64)) / ((q3 &&& (4611686018427387903 : Int64)) + (1 : Int64))) * ((q3 &&& (4611686018427387903 : Int64)) + (1 : Int64))) - (1 : Int64))))])) _
      refine XS.ifNo X4.here hx rfl (hb hby at_90) rfl ((if0 _ _).trans (feq (own_sat1 _ _ hc85)).1) ?_
      show Steps p.tables e below (T4.setTop (mkF m 93 #[.val (.long q1), .second, .val (.long q2), .second, .val (.long q3), .second, .val (.int p4), .val (.long (q3 &&& (4611686018427387903 : Int64))), .second, .val (.long j8_L9), .second, .val (.long (((q2 &&& (9223372036854775807 : Int64)) - ((q2 &&& (9223372036854775807 : Int64)) / ((q3 &&& (4611686018427387903 : Int64)) + (1 : Int64))) * ((q3 &&& (4611686018427387903 : Int64)) + (1 : Int64))) - (1 : Int64))), .second, .val (.ref b1), .val (.long (own_len (((q2 &&& (9223372036854775807 : Int64)) - ((q2 &&& (9223372036854775807 : Int64)) / ((q3 &&& (4611686018427387903 : Int64)) + (1 : Int64))) * ((q3 &&& (4611686018427387903 : Int64)) + (1 : Int64))) - (1 : Int64)) j8_L9)), .second, .val (.int (own_sat j8_L9 (((q2 &&& (9223372036854775807 : Int64)) - ((q2 &&& (9223372036854775807 : Int64)) / ((q3 &&& (4611686018427387903 : Int64)) + (1 : Int64))) * ((q3 &&& (4611686018427387903 : Int64)) + (1 : Int64))) - (1 : Int64))))] [])) _
      refine XS.lload X4.here hx rfl (hb hby at_93) rfl ?_
      show Steps p.tables e below (T4.setTop (mkF m 95 #[.val (.long q1), .second, .val (.long q2), .second, .val (.long q3), .second, .val (.int p4), .val (.long (q3 &&& (4611686018427387903 : Int64))), .second, .val (.long j8_L9), .second, .val (.long (((q2 &&& (9223372036854775807 : Int64)) - ((q2 &&& (9223372036854775807 : Int64)) / ((q3 &&& (4611686018427387903 : Int64)) + (1 : Int64))) * ((q3 &&& (4611686018427387903 : Int64)) + (1 : Int64))) - (1 : Int64))), .second, .val (.ref b1), .val (.long (own_len (((q2 &&& (9223372036854775807 : Int64)) - ((q2 &&& (9223372036854775807 : Int64)) / ((q3 &&& (4611686018427387903 : Int64)) + (1 : Int64))) * ((q3 &&& (4611686018427387903 : Int64)) + (1 : Int64))) - (1 : Int64)) j8_L9)), .second, .val (.int (own_sat j8_L9 (((q2 &&& (9223372036854775807 : Int64)) - ((q2 &&& (9223372036854775807 : Int64)) / ((q3 &&& (4611686018427387903 : Int64)) + (1 : Int64))) * ((q3 &&& (4611686018427387903 : Int64)) + (1 : Int64))) - (1 : Int64))))] [(.long (own_len (((q2 &&& (9223372036854775807 : Int64)) - ((q2 &&& (9223372036854775807 : Int64)) / ((q3 &&& (4611686018427387903 : Int64)) + (1 : Int64))) * ((q3 &&& (4611686018427387903 : Int64)) + (1 : Int64))) - (1 : Int64)) j8_L9))])) _
      refine XS.lconst X4.here hx rfl (hb hby at_95) ?_
      show Steps p.tables e below (T4.setTop (mkF m 96 #[.val (.long q1), .second, .val (.long q2), .second, .val (.long q3), .second, .val (.int p4), .val (.long (q3 &&& (4611686018427387903 : Int64))), .second, .val (.long j8_L9), .second, .val (.long (((q2 &&& (9223372036854775807 : Int64)) - ((q2 &&& (9223372036854775807 : Int64)) / ((q3 &&& (4611686018427387903 : Int64)) + (1 : Int64))) * ((q3 &&& (4611686018427387903 : Int64)) + (1 : Int64))) - (1 : Int64))), .second, .val (.ref b1), .val (.long (own_len (((q2 &&& (9223372036854775807 : Int64)) - ((q2 &&& (9223372036854775807 : Int64)) / ((q3 &&& (4611686018427387903 : Int64)) + (1 : Int64))) * ((q3 &&& (4611686018427387903 : Int64)) + (1 : Int64))) - (1 : Int64)) j8_L9)), .second, .val (.int (own_sat j8_L9 (((q2 &&& (9223372036854775807 : Int64)) - ((q2 &&& (9223372036854775807 : Int64)) / ((q3 &&& (4611686018427387903 : Int64)) + (1 : Int64))) * ((q3 &&& (4611686018427387903 : Int64)) + (1 : Int64))) - (1 : Int64))))] [(.long (1 : Int64)), (.long (own_len (((q2 &&& (9223372036854775807 : Int64)) - ((q2 &&& (9223372036854775807 : Int64)) / ((q3 &&& (4611686018427387903 : Int64)) + (1 : Int64))) * ((q3 &&& (4611686018427387903 : Int64)) + (1 : Int64))) - (1 : Int64)) j8_L9))])) _
      refine XS.lcmp X4.here hx rfl (hb hby at_96) rfl ?_
      show Steps p.tables e below (T4.setTop (mkF m 97 #[.val (.long q1), .second, .val (.long q2), .second, .val (.long q3), .second, .val (.int p4), .val (.long (q3 &&& (4611686018427387903 : Int64))), .second, .val (.long j8_L9), .second, .val (.long (((q2 &&& (9223372036854775807 : Int64)) - ((q2 &&& (9223372036854775807 : Int64)) / ((q3 &&& (4611686018427387903 : Int64)) + (1 : Int64))) * ((q3 &&& (4611686018427387903 : Int64)) + (1 : Int64))) - (1 : Int64))), .second, .val (.ref b1), .val (.long (own_len (((q2 &&& (9223372036854775807 : Int64)) - ((q2 &&& (9223372036854775807 : Int64)) / ((q3 &&& (4611686018427387903 : Int64)) + (1 : Int64))) * ((q3 &&& (4611686018427387903 : Int64)) + (1 : Int64))) - (1 : Int64)) j8_L9)), .second, .val (.int (own_sat j8_L9 (((q2 &&& (9223372036854775807 : Int64)) - ((q2 &&& (9223372036854775807 : Int64)) / ((q3 &&& (4611686018427387903 : Int64)) + (1 : Int64))) * ((q3 &&& (4611686018427387903 : Int64)) + (1 : Int64))) - (1 : Int64))))] [(.int (lcmpW (own_len (((q2 &&& (9223372036854775807 : Int64)) - ((q2 &&& (9223372036854775807 : Int64)) / ((q3 &&& (4611686018427387903 : Int64)) + (1 : Int64))) * ((q3 &&& (4611686018427387903 : Int64)) + (1 : Int64))) - (1 : Int64)) j8_L9) (1 : Int64)))])) _
      refine XS.ifNo X4.here hx rfl (hb hby at_97) rfl ((if0 _ _).trans (flt (fun q => (own_c97 _ _ (own_first q1 q3 p4 _ ej8_L9) (own_last q2 q3).1 (Int.lt_trans (own_last q2 q3).2 (own_size q3).2) hc85) ((lw_lt (own_len (((q2 &&& (9223372036854775807 : Int64)) - ((q2 &&& (9223372036854775807 : Int64)) / ((q3 &&& (4611686018427387903 : Int64)) + (1 : Int64))) * ((q3 &&& (4611686018427387903 : Int64)) + (1 : Int64))) - (1 : Int64)) j8_L9) (1 : Int64)).mp q))).1) ?_
      show Steps p.tables e below (T4.setTop (mkF m 100 #[.val (.long q1), .second, .val (.long q2), .second, .val (.long q3), .second, .val (.int p4), .val (.long (q3 &&& (4611686018427387903 : Int64))), .second, .val (.long j8_L9), .second, .val (.long (((q2 &&& (9223372036854775807 : Int64)) - ((q2 &&& (9223372036854775807 : Int64)) / ((q3 &&& (4611686018427387903 : Int64)) + (1 : Int64))) * ((q3 &&& (4611686018427387903 : Int64)) + (1 : Int64))) - (1 : Int64))), .second, .val (.ref b1), .val (.long (own_len (((q2 &&& (9223372036854775807 : Int64)) - ((q2 &&& (9223372036854775807 : Int64)) / ((q3 &&& (4611686018427387903 : Int64)) + (1 : Int64))) * ((q3 &&& (4611686018427387903 : Int64)) + (1 : Int64))) - (1 : Int64)) j8_L9)), .second, .val (.int (own_sat j8_L9 (((q2 &&& (9223372036854775807 : Int64)) - ((q2 &&& (9223372036854775807 : Int64)) / ((q3 &&& (4611686018427387903 : Int64)) + (1 : Int64))) * ((q3 &&& (4611686018427387903 : Int64)) + (1 : Int64))) - (1 : Int64))))] [])) _
      refine XS.lload X4.here hx rfl (hb hby at_100) rfl ?_
      show Steps p.tables e below (T4.setTop (mkF m 102 #[.val (.long q1), .second, .val (.long q2), .second, .val (.long q3), .second, .val (.int p4), .val (.long (q3 &&& (4611686018427387903 : Int64))), .second, .val (.long j8_L9), .second, .val (.long (((q2 &&& (9223372036854775807 : Int64)) - ((q2 &&& (9223372036854775807 : Int64)) / ((q3 &&& (4611686018427387903 : Int64)) + (1 : Int64))) * ((q3 &&& (4611686018427387903 : Int64)) + (1 : Int64))) - (1 : Int64))), .second, .val (.ref b1), .val (.long (own_len (((q2 &&& (9223372036854775807 : Int64)) - ((q2 &&& (9223372036854775807 : Int64)) / ((q3 &&& (4611686018427387903 : Int64)) + (1 : Int64))) * ((q3 &&& (4611686018427387903 : Int64)) + (1 : Int64))) - (1 : Int64)) j8_L9)), .second, .val (.int (own_sat j8_L9 (((q2 &&& (9223372036854775807 : Int64)) - ((q2 &&& (9223372036854775807 : Int64)) / ((q3 &&& (4611686018427387903 : Int64)) + (1 : Int64))) * ((q3 &&& (4611686018427387903 : Int64)) + (1 : Int64))) - (1 : Int64))))] [(.long j8_L9)])) _
      refine XS.lload X4.here hx rfl (hb hby at_102) rfl ?_
      show Steps p.tables e below (T4.setTop (mkF m 104 #[.val (.long q1), .second, .val (.long q2), .second, .val (.long q3), .second, .val (.int p4), .val (.long (q3 &&& (4611686018427387903 : Int64))), .second, .val (.long j8_L9), .second, .val (.long (((q2 &&& (9223372036854775807 : Int64)) - ((q2 &&& (9223372036854775807 : Int64)) / ((q3 &&& (4611686018427387903 : Int64)) + (1 : Int64))) * ((q3 &&& (4611686018427387903 : Int64)) + (1 : Int64))) - (1 : Int64))), .second, .val (.ref b1), .val (.long (own_len (((q2 &&& (9223372036854775807 : Int64)) - ((q2 &&& (9223372036854775807 : Int64)) / ((q3 &&& (4611686018427387903 : Int64)) + (1 : Int64))) * ((q3 &&& (4611686018427387903 : Int64)) + (1 : Int64))) - (1 : Int64)) j8_L9)), .second, .val (.int (own_sat j8_L9 (((q2 &&& (9223372036854775807 : Int64)) - ((q2 &&& (9223372036854775807 : Int64)) / ((q3 &&& (4611686018427387903 : Int64)) + (1 : Int64))) * ((q3 &&& (4611686018427387903 : Int64)) + (1 : Int64))) - (1 : Int64))))] [(.long (own_len (((q2 &&& (9223372036854775807 : Int64)) - ((q2 &&& (9223372036854775807 : Int64)) / ((q3 &&& (4611686018427387903 : Int64)) + (1 : Int64))) * ((q3 &&& (4611686018427387903 : Int64)) + (1 : Int64))) - (1 : Int64)) j8_L9)), (.long j8_L9)])) _
      refine XS.ladd X4.here hx rfl (hb hby at_104) rfl ?_
      show Steps p.tables e below (T4.setTop (mkF m 105 #[.val (.long q1), .second, .val (.long q2), .second, .val (.long q3), .second, .val (.int p4), .val (.long (q3 &&& (4611686018427387903 : Int64))), .second, .val (.long j8_L9), .second, .val (.long (((q2 &&& (9223372036854775807 : Int64)) - ((q2 &&& (9223372036854775807 : Int64)) / ((q3 &&& (4611686018427387903 : Int64)) + (1 : Int64))) * ((q3 &&& (4611686018427387903 : Int64)) + (1 : Int64))) - (1 : Int64))), .second, .val (.ref b1), .val (.long (own_len (((q2 &&& (9223372036854775807 : Int64)) - ((q2 &&& (9223372036854775807 : Int64)) / ((q3 &&& (4611686018427387903 : Int64)) + (1 : Int64))) * ((q3 &&& (4611686018427387903 : Int64)) + (1 : Int64))) - (1 : Int64)) j8_L9)), .second, .val (.int (own_sat j8_L9 (((q2 &&& (9223372036854775807 : Int64)) - ((q2 &&& (9223372036854775807 : Int64)) / ((q3 &&& (4611686018427387903 : Int64)) + (1 : Int64))) * ((q3 &&& (4611686018427387903 : Int64)) + (1 : Int64))) - (1 : Int64))))] [(.long (j8_L9 + (own_len (((q2 &&& (9223372036854775807 : Int64)) - ((q2 &&& (9223372036854775807 : Int64)) / ((q3 &&& (4611686018427387903 : Int64)) + (1 : Int64))) * ((q3 &&& (4611686018427387903 : Int64)) + (1 : Int64))) - (1 : Int64)) j8_L9)))])) _
      refine XS.lconst X4.here hx rfl (hb hby at_105) ?_
      show Steps p.tables e below (T4.setTop (mkF m 106 #[.val (.long q1), .second, .val (.long q2), .second, .val (.long q3), .second, .val (.int p4), .val (.long (q3 &&& (4611686018427387903 : Int64))), .second, .val (.long j8_L9), .second, .val (.long (((q2 &&& (9223372036854775807 : Int64)) - ((q2 &&& (9223372036854775807 : Int64)) / ((q3 &&& (4611686018427387903 : Int64)) + (1 : Int64))) * ((q3 &&& (4611686018427387903 : Int64)) + (1 : Int64))) - (1 : Int64))), .second, .val (.ref b1), .val (.long (own_len (((q2 &&& (9223372036854775807 : Int64)) - ((q2 &&& (9223372036854775807 : Int64)) / ((q3 &&& (4611686018427387903 : Int64)) + (1 : Int64))) * ((q3 &&& (4611686018427387903 : Int64)) + (1 : Int64))) - (1 : Int64)) j8_L9)), .second, .val (.int (own_sat j8_L9 (((q2 &&& (9223372036854775807 : Int64)) - ((q2 &&& (9223372036854775807 : Int64)) / ((q3 &&& (4611686018427387903 : Int64)) + (1 : Int64))) * ((q3 &&& (4611686018427387903 : Int64)) + (1 : Int64))) - (1 : Int64))))] [(.long (1 : Int64)), (.long (j8_L9 + (own_len (((q2 &&& (9223372036854775807 : Int64)) - ((q2 &&& (9223372036854775807 : Int64)) / ((q3 &&& (4611686018427387903 : Int64)) + (1 : Int64))) * ((q3 &&& (4611686018427387903 : Int64)) + (1 : Int64))) - (1 : Int64)) j8_L9)))])) _
      refine XS.lsub X4.here hx rfl (hb hby at_106) rfl ?_
      show Steps p.tables e below (T4.setTop (mkF m 107 #[.val (.long q1), .second, .val (.long q2), .second, .val (.long q3), .second, .val (.int p4), .val (.long (q3 &&& (4611686018427387903 : Int64))), .second, .val (.long j8_L9), .second, .val (.long (((q2 &&& (9223372036854775807 : Int64)) - ((q2 &&& (9223372036854775807 : Int64)) / ((q3 &&& (4611686018427387903 : Int64)) + (1 : Int64))) * ((q3 &&& (4611686018427387903 : Int64)) + (1 : Int64))) - (1 : Int64))), .second, .val (.ref b1), .val (.long (own_len (((q2 &&& (9223372036854775807 : Int64)) - ((q2 &&& (9223372036854775807 : Int64)) / ((q3 &&& (4611686018427387903 : Int64)) + (1 : Int64))) * ((q3 &&& (4611686018427387903 : Int64)) + (1 : Int64))) - (1 : Int64)) j8_L9)), .second, .val (.int (own_sat j8_L9 (((q2 &&& (9223372036854775807 : Int64)) - ((q2 &&& (9223372036854775807 : Int64)) / ((q3 &&& (4611686018427387903 : Int64)) + (1 : Int64))) * ((q3 &&& (4611686018427387903 : Int64)) + (1 : Int64))) - (1 : Int64))))] [(.long ((j8_L9 + (own_len (((q2 &&& (9223372036854775807 : Int64)) - ((q2 &&& (9223372036854775807 : Int64)) / ((q3 &&& (4611686018427387903 : Int64)) + (1 : Int64))) * ((q3 &&& (4611686018427387903 : Int64)) + (1 : Int64))) - (1 : Int64)) j8_L9)) - (1 : Int64)))])) _
      refine XS.lload X4.here hx rfl (hb hby at_107) rfl ?_
      show Steps p.tables e below (T4.setTop (mkF m 109 #[.val (.long q1), .second, .val (.long q2), .second, .val (.long q3), .second, .val (.int p4), .val (.long (q3 &&& (4611686018427387903 : Int64))), .second, .val (.long j8_L9), .second, .val (.long (((q2 &&& (9223372036854775807 : Int64)) - ((q2 &&& (9223372036854775807 : Int64)) / ((q3 &&& (4611686018427387903 : Int64)) + (1 : Int64))) * ((q3 &&& (4611686018427387903 : Int64)) + (1 : Int64))) - (1 : Int64))), .second, .val (.ref b1), .val (.long (own_len (((q2 &&& (9223372036854775807 : Int64)) - ((q2 &&& (9223372036854775807 : Int64)) / ((q3 &&& (4611686018427387903 : Int64)) + (1 : Int64))) * ((q3 &&& (4611686018427387903 : Int64)) + (1 : Int64))) - (1 : Int64)) j8_L9)), .second, .val (.int (own_sat j8_L9 (((q2 &&& (9223372036854775807 : Int64)) - ((q2 &&& (9223372036854775807 : Int64)) / ((q3 &&& (4611686018427387903 : Int64)) + (1 : Int64))) * ((q3 &&& (4611686018427387903 : Int64)) + (1 : Int64))) - (1 : Int64))))] [(.long (((q2 &&& (9223372036854775807 : Int64)) - ((q2 &&& (9223372036854775807 : Int64)) / ((q3 &&& (4611686018427387903 : Int64)) + (1 : Int64))) * ((q3 &&& (4611686018427387903 : Int64)) + (1 : Int64))) - (1 : Int64))), (.long ((j8_L9 + (own_len (((q2 &&& (9223372036854775807 : Int64)) - ((q2 &&& (9223372036854775807 : Int64)) / ((q3 &&& (4611686018427387903 : Int64)) + (1 : Int64))) * ((q3 &&& (4611686018427387903 : Int64)) + (1 : Int64))) - (1 : Int64)) j8_L9)) - (1 : Int64)))])) _
      refine XS.lcmp X4.here hx rfl (hb hby at_109) rfl ?_
      show Steps p.tables e below (T4.setTop (mkF m 110 #[.val (.long q1), .second, .val (.long q2), .second, .val (.long q3), .second, .val (.int p4), .val (.long (q3 &&& (4611686018427387903 : Int64))), .second, .val (.long j8_L9), .second, .val (.long (((q2 &&& (9223372036854775807 : Int64)) - ((q2 &&& (9223372036854775807 : Int64)) / ((q3 &&& (4611686018427387903 : Int64)) + (1 : Int64))) * ((q3 &&& (4611686018427387903 : Int64)) + (1 : Int64))) - (1 : Int64))), .second, .val (.ref b1), .val (.long (own_len (((q2 &&& (9223372036854775807 : Int64)) - ((q2 &&& (9223372036854775807 : Int64)) / ((q3 &&& (4611686018427387903 : Int64)) + (1 : Int64))) * ((q3 &&& (4611686018427387903 : Int64)) + (1 : Int64))) - (1 : Int64)) j8_L9)), .second, .val (.int (own_sat j8_L9 (((q2 &&& (9223372036854775807 : Int64)) - ((q2 &&& (9223372036854775807 : Int64)) / ((q3 &&& (4611686018427387903 : Int64)) + (1 : Int64))) * ((q3 &&& (4611686018427387903 : Int64)) + (1 : Int64))) - (1 : Int64))))] [(.int (lcmpW ((j8_L9 + (own_len (((q2 &&& (9223372036854775807 : Int64)) - ((q2 &&& (9223372036854775807 : Int64)) / ((q3 &&& (4611686018427387903 : Int64)) + (1 : Int64))) * ((q3 &&& (4611686018427387903 : Int64)) + (1 : Int64))) - (1 : Int64)) j8_L9)) - (1 : Int64)) (((q2 &&& (9223372036854775807 : Int64)) - ((q2 &&& (9223372036854775807 : Int64)) / ((q3 &&& (4611686018427387903 : Int64)) + (1 : Int64))) * ((q3 &&& (4611686018427387903 : Int64)) + (1 : Int64))) - (1 : Int64))))])) _
      refine XS.ifNo X4.here hx rfl (hb hby at_110) rfl ((if0 _ _).trans (teq ((lw_eq ((j8_L9 + (own_len (((q2 &&& (9223372036854775807 : Int64)) - ((q2 &&& (9223372036854775807 : Int64)) / ((q3 &&& (4611686018427387903 : Int64)) + (1 : Int64))) * ((q3 &&& (4611686018427387903 : Int64)) + (1 : Int64))) - (1 : Int64)) j8_L9)) - (1 : Int64)) (((q2 &&& (9223372036854775807 : Int64)) - ((q2 &&& (9223372036854775807 : Int64)) / ((q3 &&& (4611686018427387903 : Int64)) + (1 : Int64))) * ((q3 &&& (4611686018427387903 : Int64)) + (1 : Int64))) - (1 : Int64))).mpr (own_c110 _ _))).2) ?_
      show Steps p.tables e below (T4.setTop (mkF m 113 #[.val (.long q1), .second, .val (.long q2), .second, .val (.long q3), .second, .val (.int p4), .val (.long (q3 &&& (4611686018427387903 : Int64))), .second, .val (.long j8_L9), .second, .val (.long (((q2 &&& (9223372036854775807 : Int64)) - ((q2 &&& (9223372036854775807 : Int64)) / ((q3 &&& (4611686018427387903 : Int64)) + (1 : Int64))) * ((q3 &&& (4611686018427387903 : Int64)) + (1 : Int64))) - (1 : Int64))), .second, .val (.ref b1), .val (.long (own_len (((q2 &&& (9223372036854775807 : Int64)) - ((q2 &&& (9223372036854775807 : Int64)) / ((q3 &&& (4611686018427387903 : Int64)) + (1 : Int64))) * ((q3 &&& (4611686018427387903 : Int64)) + (1 : Int64))) - (1 : Int64)) j8_L9)), .second, .val (.int (own_sat j8_L9 (((q2 &&& (9223372036854775807 : Int64)) - ((q2 &&& (9223372036854775807 : Int64)) / ((q3 &&& (4611686018427387903 : Int64)) + (1 : Int64))) * ((q3 &&& (4611686018427387903 : Int64)) + (1 : Int64))) - (1 : Int64))))] [])) _
      refine XS.lload X4.here hx rfl (hb hby at_113) rfl ?_
      show Steps p.tables e below (T4.setTop (mkF m 115 #[.val (.long q1), .second, .val (.long q2), .second, .val (.long q3), .second, .val (.int p4), .val (.long (q3 &&& (4611686018427387903 : Int64))), .second, .val (.long j8_L9), .second, .val (.long (((q2 &&& (9223372036854775807 : Int64)) - ((q2 &&& (9223372036854775807 : Int64)) / ((q3 &&& (4611686018427387903 : Int64)) + (1 : Int64))) * ((q3 &&& (4611686018427387903 : Int64)) + (1 : Int64))) - (1 : Int64))), .second, .val (.ref b1), .val (.long (own_len (((q2 &&& (9223372036854775807 : Int64)) - ((q2 &&& (9223372036854775807 : Int64)) / ((q3 &&& (4611686018427387903 : Int64)) + (1 : Int64))) * ((q3 &&& (4611686018427387903 : Int64)) + (1 : Int64))) - (1 : Int64)) j8_L9)), .second, .val (.int (own_sat j8_L9 (((q2 &&& (9223372036854775807 : Int64)) - ((q2 &&& (9223372036854775807 : Int64)) / ((q3 &&& (4611686018427387903 : Int64)) + (1 : Int64))) * ((q3 &&& (4611686018427387903 : Int64)) + (1 : Int64))) - (1 : Int64))))] [(.long (own_len (((q2 &&& (9223372036854775807 : Int64)) - ((q2 &&& (9223372036854775807 : Int64)) / ((q3 &&& (4611686018427387903 : Int64)) + (1 : Int64))) * ((q3 &&& (4611686018427387903 : Int64)) + (1 : Int64))) - (1 : Int64)) j8_L9))])) _
      refine XS.lload X4.here hx rfl (hb hby at_115) rfl ?_
      show Steps p.tables e below (T4.setTop (mkF m 117 #[.val (.long q1), .second, .val (.long q2), .second, .val (.long q3), .second, .val (.int p4), .val (.long (q3 &&& (4611686018427387903 : Int64))), .second, .val (.long j8_L9), .second, .val (.long (((q2 &&& (9223372036854775807 : Int64)) - ((q2 &&& (9223372036854775807 : Int64)) / ((q3 &&& (4611686018427387903 : Int64)) + (1 : Int64))) * ((q3 &&& (4611686018427387903 : Int64)) + (1 : Int64))) - (1 : Int64))), .second, .val (.ref b1), .val (.long (own_len (((q2 &&& (9223372036854775807 : Int64)) - ((q2 &&& (9223372036854775807 : Int64)) / ((q3 &&& (4611686018427387903 : Int64)) + (1 : Int64))) * ((q3 &&& (4611686018427387903 : Int64)) + (1 : Int64))) - (1 : Int64)) j8_L9)), .second, .val (.int (own_sat j8_L9 (((q2 &&& (9223372036854775807 : Int64)) - ((q2 &&& (9223372036854775807 : Int64)) / ((q3 &&& (4611686018427387903 : Int64)) + (1 : Int64))) * ((q3 &&& (4611686018427387903 : Int64)) + (1 : Int64))) - (1 : Int64))))] [(.long (q3 &&& (4611686018427387903 : Int64))), (.long (own_len (((q2 &&& (9223372036854775807 : Int64)) - ((q2 &&& (9223372036854775807 : Int64)) / ((q3 &&& (4611686018427387903 : Int64)) + (1 : Int64))) * ((q3 &&& (4611686018427387903 : Int64)) + (1 : Int64))) - (1 : Int64)) j8_L9))])) _
      refine XS.lload X4.here hx rfl (hb hby at_117) rfl ?_
      show Steps p.tables e below (T4.setTop (mkF m 119 #[.val (.long q1), .second, .val (.long q2), .second, .val (.long q3), .second, .val (.int p4), .val (.long (q3 &&& (4611686018427387903 : Int64))), .second, .val (.long j8_L9), .second, .val (.long (((q2 &&& (9223372036854775807 : Int64)) - ((q2 &&& (9223372036854775807 : Int64)) / ((q3 &&& (4611686018427387903 : Int64)) + (1 : Int64))) * ((q3 &&& (4611686018427387903 : Int64)) + (1 : Int64))) - (1 : Int64))), .second, .val (.ref b1), .val (.long (own_len (((q2 &&& (9223372036854775807 : Int64)) - ((q2 &&& (9223372036854775807 : Int64)) / ((q3 &&& (4611686018427387903 : Int64)) + (1 : Int64))) * ((q3 &&& (4611686018427387903 : Int64)) + (1 : Int64))) - (1 : Int64)) j8_L9)), .second, .val (.int (own_sat j8_L9 (((q2 &&& (9223372036854775807 : Int64)) - ((q2 &&& (9223372036854775807 : Int64)) / ((q3 &&& (4611686018427387903 : Int64)) + (1 : Int64))) * ((q3 &&& (4611686018427387903 : Int64)) + (1 : Int64))) - (1 : Int64))))] [(.long j8_L9), (.long (q3 &&& (4611686018427387903 : Int64))), (.long (own_len (((q2 &&& (9223372036854775807 : Int64)) - ((q2 &&& (9223372036854775807 : Int64)) / ((q3 &&& (4611686018427387903 : Int64)) + (1 : Int64))) * ((q3 &&& (4611686018427387903 : Int64)) + (1 : Int64))) - (1 : Int64)) j8_L9))])) _
      refine XS.lsub X4.here hx rfl (hb hby at_119) rfl ?_
      show Steps p.tables e below (T4.setTop (mkF m 120 #[.val (.long q1), .second, .val (.long q2), .second, .val (.long q3), .second, .val (.int p4), .val (.long (q3 &&& (4611686018427387903 : Int64))), .second, .val (.long j8_L9), .second, .val (.long (((q2 &&& (9223372036854775807 : Int64)) - ((q2 &&& (9223372036854775807 : Int64)) / ((q3 &&& (4611686018427387903 : Int64)) + (1 : Int64))) * ((q3 &&& (4611686018427387903 : Int64)) + (1 : Int64))) - (1 : Int64))), .second, .val (.ref b1), .val (.long (own_len (((q2 &&& (9223372036854775807 : Int64)) - ((q2 &&& (9223372036854775807 : Int64)) / ((q3 &&& (4611686018427387903 : Int64)) + (1 : Int64))) * ((q3 &&& (4611686018427387903 : Int64)) + (1 : Int64))) - (1 : Int64)) j8_L9)), .second, .val (.int (own_sat j8_L9 (((q2 &&& (9223372036854775807 : Int64)) - ((q2 &&& (9223372036854775807 : Int64)) / ((q3 &&& (4611686018427387903 : Int64)) + (1 : Int64))) * ((q3 &&& (4611686018427387903 : Int64)) + (1 : Int64))) - (1 : Int64))))] [(.long ((q3 &&& (4611686018427387903 : Int64)) - j8_L9)), (.long (own_len (((q2 &&& (9223372036854775807 : Int64)) - ((q2 &&& (9223372036854775807 : Int64)) / ((q3 &&& (4611686018427387903 : Int64)) + (1 : Int64))) * ((q3 &&& (4611686018427387903 : Int64)) + (1 : Int64))) - (1 : Int64)) j8_L9))])) _
      refine XS.lcmp X4.here hx rfl (hb hby at_120) rfl ?_
      show Steps p.tables e below (T4.setTop (mkF m 121 #[.val (.long q1), .second, .val (.long q2), .second, .val (.long q3), .second, .val (.int p4), .val (.long (q3 &&& (4611686018427387903 : Int64))), .second, .val (.long j8_L9), .second, .val (.long (((q2 &&& (9223372036854775807 : Int64)) - ((q2 &&& (9223372036854775807 : Int64)) / ((q3 &&& (4611686018427387903 : Int64)) + (1 : Int64))) * ((q3 &&& (4611686018427387903 : Int64)) + (1 : Int64))) - (1 : Int64))), .second, .val (.ref b1), .val (.long (own_len (((q2 &&& (9223372036854775807 : Int64)) - ((q2 &&& (9223372036854775807 : Int64)) / ((q3 &&& (4611686018427387903 : Int64)) + (1 : Int64))) * ((q3 &&& (4611686018427387903 : Int64)) + (1 : Int64))) - (1 : Int64)) j8_L9)), .second, .val (.int (own_sat j8_L9 (((q2 &&& (9223372036854775807 : Int64)) - ((q2 &&& (9223372036854775807 : Int64)) / ((q3 &&& (4611686018427387903 : Int64)) + (1 : Int64))) * ((q3 &&& (4611686018427387903 : Int64)) + (1 : Int64))) - (1 : Int64))))] [(.int (lcmpW (own_len (((q2 &&& (9223372036854775807 : Int64)) - ((q2 &&& (9223372036854775807 : Int64)) / ((q3 &&& (4611686018427387903 : Int64)) + (1 : Int64))) * ((q3 &&& (4611686018427387903 : Int64)) + (1 : Int64))) - (1 : Int64)) j8_L9) ((q3 &&& (4611686018427387903 : Int64)) - j8_L9)))])) _
      refine XS.ifNo X4.here hx rfl (hb hby at_121) rfl ((if0 _ _).trans (flt (fun q => (own_c121 _ _ _ (own_first q1 q3 p4 _ ej8_L9) (own_last q2 q3).1 (own_last q2 q3).2 (own_size q3).2 hc85) ((lw_gt (own_len (((q2 &&& (9223372036854775807 : Int64)) - ((q2 &&& (9223372036854775807 : Int64)) / ((q3 &&& (4611686018427387903 : Int64)) + (1 : Int64))) * ((q3 &&& (4611686018427387903 : Int64)) + (1 : Int64))) - (1 : Int64)) j8_L9) ((q3 &&& (4611686018427387903 : Int64)) - j8_L9)).mp q))).2.2.1) ?_
      show Steps p.tables e below (T4.setTop (mkF m 124 #[.val (.long q1), .second, .val (.long q2), .second, .val (.long q3), .second, .val (.int p4), .val (.long (q3 &&& (4611686018427387903 : Int64))), .second, .val (.long j8_L9), .second, .val (.long (((q2 &&& (9223372036854775807 : Int64)) - ((q2 &&& (9223372036854775807 : Int64)) / ((q3 &&& (4611686018427387903 : Int64)) + (1 : Int64))) * ((q3 &&& (4611686018427387903 : Int64)) + (1 : Int64))) - (1 : Int64))), .second, .val (.ref b1), .val (.long (own_len (((q2 &&& (9223372036854775807 : Int64)) - ((q2 &&& (9223372036854775807 : Int64)) / ((q3 &&& (4611686018427387903 : Int64)) + (1 : Int64))) * ((q3 &&& (4611686018427387903 : Int64)) + (1 : Int64))) - (1 : Int64)) j8_L9)), .second, .val (.int (own_sat j8_L9 (((q2 &&& (9223372036854775807 : Int64)) - ((q2 &&& (9223372036854775807 : Int64)) / ((q3 &&& (4611686018427387903 : Int64)) + (1 : Int64))) * ((q3 &&& (4611686018427387903 : Int64)) + (1 : Int64))) - (1 : Int64))))] [])) _
      refine XS.iconst X4.here hx rfl (hb hby at_124) ?_
      show Steps p.tables e below (T4.setTop (mkF m 125 #[.val (.long q1), .second, .val (.long q2), .second, .val (.long q3), .second, .val (.int p4), .val (.long (q3 &&& (4611686018427387903 : Int64))), .second, .val (.long j8_L9), .second, .val (.long (((q2 &&& (9223372036854775807 : Int64)) - ((q2 &&& (9223372036854775807 : Int64)) / ((q3 &&& (4611686018427387903 : Int64)) + (1 : Int64))) * ((q3 &&& (4611686018427387903 : Int64)) + (1 : Int64))) - (1 : Int64))), .second, .val (.ref b1), .val (.long (own_len (((q2 &&& (9223372036854775807 : Int64)) - ((q2 &&& (9223372036854775807 : Int64)) / ((q3 &&& (4611686018427387903 : Int64)) + (1 : Int64))) * ((q3 &&& (4611686018427387903 : Int64)) + (1 : Int64))) - (1 : Int64)) j8_L9)), .second, .val (.int (own_sat j8_L9 (((q2 &&& (9223372036854775807 : Int64)) - ((q2 &&& (9223372036854775807 : Int64)) / ((q3 &&& (4611686018427387903 : Int64)) + (1 : Int64))) * ((q3 &&& (4611686018427387903 : Int64)) + (1 : Int64))) - (1 : Int64))))] [(.int (1 : Int32))])) _
      refine XS.goto X4.here hx rfl (pc0 := 125) (pc' := 129) rfl (hb hby at_125) (by decide) (by decide) ?_
      show Steps p.tables e below (T4.setTop (mkF m 129 #[.val (.long q1), .second, .val (.long q2), .second, .val (.long q3), .second, .val (.int p4), .val (.long (q3 &&& (4611686018427387903 : Int64))), .second, .val (.long j8_L9), .second, .val (.long (((q2 &&& (9223372036854775807 : Int64)) - ((q2 &&& (9223372036854775807 : Int64)) / ((q3 &&& (4611686018427387903 : Int64)) + (1 : Int64))) * ((q3 &&& (4611686018427387903 : Int64)) + (1 : Int64))) - (1 : Int64))), .second, .val (.ref b1), .val (.long (own_len (((q2 &&& (9223372036854775807 : Int64)) - ((q2 &&& (9223372036854775807 : Int64)) / ((q3 &&& (4611686018427387903 : Int64)) + (1 : Int64))) * ((q3 &&& (4611686018427387903 : Int64)) + (1 : Int64))) - (1 : Int64)) j8_L9)), .second, .val (.int (own_sat j8_L9 (((q2 &&& (9223372036854775807 : Int64)) - ((q2 &&& (9223372036854775807 : Int64)) / ((q3 &&& (4611686018427387903 : Int64)) + (1 : Int64))) * ((q3 &&& (4611686018427387903 : Int64)) + (1 : Int64))) - (1 : Int64))))] [(.int (1 : Int32))])) _
      exact retN X4 hx (t := .boolean) Bd.returns (by simp) (hb hby at_129) hr
    · show Q0 Z q1 q2 q3 p4 h0 n0 _ T4.heap _
      rw [e4]
      exact ⟨rfl, N4⟩
set_option maxRecDepth 65536 in
set_option maxHeartbeats 40000000 in
theorem comes_1 {Post : Tables → Env → Array Value → State → Outcome → State → Prop} (hpost : ∀ tb e args s v u, (limb_1_1.after args s (.returned v) u = true ∧ limb_1_2.after args s (.returned v) u = true ∧ True) → FrameEnd s (.returned v) u (Jvm.fieldLocs frame_1_writes args s ++ Jvm.arrayLocs frame_1_arrays args s ++ Jvm.staticLocs frame_1_statics s) 16 128 → Post tb e args s (.returned v) u) :
    ArmFor flags0 classFile x code maxLocals ret World_1 tables_1 room_1 Calls_1 rest_1 Pre_1 Post := by
  intro l hfl _ _ p e ha hc hk s m args below hf hA hF happ hP
  obtain ⟨hcalls, hrest, hpre⟩ := hP
  obtain ⟨-, -, -, hnamed, -, -, -, hat⟩ := (Spec.applies_iff hf).mp happ
  obtain ⟨hg, hn⟩ := and_e (Cond.before_iff.mp (show (Jvm.Cond.and given_1 narrow_1).before args s = true from hpre))
  obtain ⟨gc, g0⟩ := and_e hg
  obtain ⟨ga0, g1⟩ := and_e g0
  obtain ⟨ga1, g2⟩ := and_e g1
  obtain ⟨ga2, g3⟩ := and_e g2
  obtain ⟨w0, w1, w2, w3, rfl⟩ : ∃ w0 w1 w2 w3 : Value, args = #[w0, w1, w2, w3] := by
    have hs : args.size = 4 := by simpa [Cond.value, given_1] using gc
    obtain ⟨L⟩ := args
    match L, hs with
    | [w0, w1, w2, w3], _ => exact ⟨w0, w1, w2, w3, rfl⟩
  have hw := fun d (hd : d ∈ tables_1) => atoms_spec (ws := Jvm.Cond.code x code maxLocals ret :: tables_1) hat d (List.mem_cons_of_mem _ hd)
  have hfit : Fit s := fun {y c} hc i hi => by
    obtain ⟨ha, rfl⟩ := Array.getElem?_eq_some_iff.mp hc
    have q := List.all_eq_true.mp ((Array.all_eq_true_iff_forall_mem.mp hF) _ (Array.getElem_mem ha)) i (List.mem_range.mpr hi)
    simpa [Array.getElem?_eq_getElem hi] using q
  obtain ⟨i0, ei0⟩ := isL_v ga0
  obtain rfl : w0 = (.long i0) := Option.some.inj ei0
  obtain ⟨i1, ei1⟩ := isL_v ga1
  obtain rfl : w1 = (.long i1) := Option.some.inj ei1
  obtain ⟨i2, ei2⟩ := isL_v ga2
  obtain rfl : w2 = (.long i2) := Option.some.inj ei2
  obtain ⟨i3, ei3⟩ := is_v g3
  obtain rfl : w3 = (.int i3) := Option.some.inj ei3
  obtain ⟨n, o, h1, h2, h3, _, L, rfl, ⟨rfl, N⟩, hq⟩ := rm0 l s _ hw tables_1 i0 i1 i2 i3 s.heap s.heap.size (Nat.le_refl _)  p e ha hc hk s m _ below hf ((Spec.applies_iff_loose hf).mp happ).1 ⟨rfl, State.Warmed39.refl s, rfl⟩ trivial
  refine ⟨n, _, h1, h2, h3, hpost _ _ _ _ _ _ ⟨Cond.after_iff.mpr rfl, Cond.after_iff.mpr (eq_i res_at (Term.int_eval (1)) rfl), trivial⟩ ⟨hq.1, hq.2.1, (hq.2.2.sift fun y hy => Or.inr (N y hy)).mono (by decide) (by decide)⟩⟩
theorem main_1_1 : Claimed_1_1 := comes_1 fun _ _ _ _ _ _ h hF => ⟨h.1, hF⟩
theorem main_1_2 : Claimed_1_2 := comes_1 fun _ _ _ _ _ _ h hF => ⟨h.2.1, hF⟩
end Jvm.Pilot.@@N@@
namespace Jvm.Pilot.@@N@@
open Jvm Jvm.ClassFile Sem Op Lib Jvm.Free Jvm.Stand Jvm.Pilot.@@N@@.Jvm.D
/-! MADE BY PROGRAM (witnessworld.py) out of the Statement's table words and the real class files: 10 classes; the members and pool entries that the words name. The judged class is class 1, her method 1. -/
namespace start1
open Jvm.ClassFile
def u (s : String) : CpInfo := .utf8 (stringToUtf16 s)
/-- a pool by its gaps: so many unusable entries, then the entry; so many at the end -/
def gap : Nat → List CpInfo → List CpInfo
  | 0, r => r
  | n + 1, r => .unusable :: gap n r
def poolList (es : List (Nat × CpInfo)) (last : Nat) : List CpInfo := es.foldr (fun e r => gap e.1 (e.2 :: r)) (gap last [])
def pool (es : List (Nat × CpInfo)) (last : Nat) : Array CpInfo := ⟨poolList es last⟩
def fileOf (pool : Array CpInfo) (this : Nat) (attrs : Array Attribute := #[]) (ms : Array MethodInfo := #[]) (fl : Nat := 33) (sup : Nat := 0) (ifs : Array Nat := #[]) (fds : Array FieldInfo := #[]) : ClassFile where
  minorVersion := 0
  majorVersion := 65
  constantPool := pool
  accessFlags := fl
  thisClass := this
  superClass := sup
  interfaces := ifs
  fields := fds
  methods := ms
  attributes := attrs
def plain (name : String) (sup : Option ClassId) : Class where
  name := name
  kind := .ordinary
  loader := none
  accessFlags := 33
  super := sup
  interfaces := #[]
  cf := none
  fields := #[]
  methods := #[]
  instanceTypes := #[]
  staticTypes := #[]
  resolved := #[]
  callSites := []
  init := .initialized
  statics := none
  mirror := none

def pool0 : Array CpInfo := pool [(5, u "<init>"), (0, u "()V"), (1, .class_ 10), (1, u "java/lang/Object")] 113

def k0c0 : Code := { maxStack := 0, maxLocals := 1, code := object_method_1_code, exceptionTable := #[], attributes := #[] }
def k0m0 : Method := { name := "<init>", desc := "()V", sig := { parameters := [], returnType := none }, accessFlags := 1, code := some k0c0 }
/-- java/lang/Object -/
def k0 : Class := { plain "java/lang/Object" none with
  accessFlags := 33
  interfaces := #[]
  cf := some (fileOf pool0 8 #[] #[{ accessFlags := 1, nameIndex := 5, descriptorIndex := 6, attributes := #[] }] 33 0 #[] #[])
  fields := #[]
  methods := #[k0m0]
  instanceTypes := #[]
  staticTypes := #[]
  resolved := Array.replicate 124 none
  statics := none }

def pool1 : Array CpInfo := pool [(2, .class_ 4), (1, u "java/lang/Object"), (0, u "<init>"), (0, u "()V"), (0, .long 4611686018427387903), (3, .long 9223372036854775807), (1, .class_ 14), (0, u "com/example/larder/larder/http/ByteRange"), (0, .methodref 13 16), (0, .nameAndType 5 17), (0, u "(JJJ)V"), (0, .methodref 13 19), (0, .nameAndType 20 21), (0, u "length"), (0, u "()J"), (0, .methodref 13 23), (0, .nameAndType 24 25), (0, u "satisfiable"), (0, u "()Z"), (0, .class_ 27), (0, u "com/example/larder/larder/http/ByteRangeLengthPinLaw"), (2, u "law"), (0, u "(JJJI)Z")] 3

def k1m0 : Method := { name := "<init>", desc := "()V", sig := { parameters := [], returnType := none }, accessFlags := 1, code := none }
def k1c1 : Code := { maxStack := 8, maxLocals := 17, code := code, exceptionTable := #[], attributes := #[] }
def k1m1 : Method := { name := "law", desc := "(JJJI)Z", sig := { parameters := [.long, .long, .long, .int], returnType := some .boolean }, accessFlags := 9, code := some k1c1 }
/-- com/example/larder/larder/http/ByteRangeLengthPinLaw -/
def k1 : Class := { plain "com/example/larder/larder/http/ByteRangeLengthPinLaw" (some 0) with
  accessFlags := 49
  interfaces := #[]
  cf := some (fileOf pool1 26 #[] #[{ accessFlags := 1, nameIndex := 5, descriptorIndex := 6, attributes := #[] }, { accessFlags := 9, nameIndex := 30, descriptorIndex := 31, attributes := #[] }] 49 2 #[] #[])
  fields := #[]
  methods := #[k1m0, k1m1]
  instanceTypes := #[]
  staticTypes := #[]
  resolved := Array.replicate 35 none
  statics := none }

def pool2 : Array CpInfo := pool [(1, .methodref 2 3), (0, .class_ 4), (0, .nameAndType 5 6), (0, u "java/lang/Object"), (0, u "<init>"), (0, u "()V"), (0, .class_ 8), (0, u "java/lang/Record")] 13

def k2c0 : Code := { maxStack := 1, maxLocals := 1, code := jdk_30_method_1_code, exceptionTable := #[], attributes := #[] }
def k2m0 : Method := { name := "<init>", desc := "()V", sig := { parameters := [], returnType := none }, accessFlags := 4, code := some k2c0 }
/-- java/lang/Record -/
def k2 : Class := { plain "java/lang/Record" (some 0) with
  accessFlags := 1057
  interfaces := #[]
  cf := some (fileOf pool2 7 #[] #[{ accessFlags := 4, nameIndex := 5, descriptorIndex := 6, attributes := #[] }] 1057 2 #[] #[])
  fields := #[]
  methods := #[k2m0]
  instanceTypes := #[]
  staticTypes := #[]
  resolved := Array.replicate 22 none
  statics := none }

def pool3 : Array CpInfo := pool [(1, .methodref 2 3), (0, .class_ 4), (0, .nameAndType 5 6), (0, u "java/lang/Record"), (0, u "<init>"), (0, u "()V"), (0, .fieldref 8 9), (0, .class_ 10), (0, .nameAndType 11 12), (0, u "com/example/larder/larder/http/ByteRange"), (0, u "first"), (0, u "J"), (0, .fieldref 8 14), (0, .nameAndType 15 12), (0, u "last"), (0, .fieldref 8 17), (0, .nameAndType 18 12), (0, u "size"), (6, u "length"), (21, u "()Z"), (14, u "SPEC"), (0, u "Ljava/util/regex/Pattern;"), (35, u "(JJJ)V"), (9, u "satisfiable"), (33, u "UNIT"), (0, u "Ljava/lang/String;"), (9, u "()J")] 36

def k3c0 : Code := { maxStack := 3, maxLocals := 7, code := prog_41_method_1_code, exceptionTable := #[], attributes := #[] }
def k3m0 : Method := { name := "<init>", desc := "(JJJ)V", sig := { parameters := [.long, .long, .long], returnType := none }, accessFlags := 0, code := some k3c0 }
def k3c1 : Code := { maxStack := 4, maxLocals := 1, code := prog_41_method_3_code, exceptionTable := #[], attributes := #[] }
def k3m1 : Method := { name := "satisfiable", desc := "()Z", sig := { parameters := [], returnType := some .boolean }, accessFlags := 0, code := some k3c1 }
def k3c2 : Code := { maxStack := 4, maxLocals := 1, code := prog_41_method_4_code, exceptionTable := #[], attributes := #[] }
def k3m2 : Method := { name := "length", desc := "()J", sig := { parameters := [], returnType := some .long }, accessFlags := 0, code := some k3c2 }
/-- com/example/larder/larder/http/ByteRange -/
def k3 : Class := { plain "com/example/larder/larder/http/ByteRange" (some 2) with
  accessFlags := 48
  interfaces := #[]
  cf := some (fileOf pool3 8 #[] #[{ accessFlags := 0, nameIndex := 5, descriptorIndex := 99, attributes := #[] }, { accessFlags := 0, nameIndex := 109, descriptorIndex := 47, attributes := #[] }, { accessFlags := 0, nameIndex := 25, descriptorIndex := 154, attributes := #[] }] 48 2 #[] #[{ accessFlags := 18, nameIndex := 11, descriptorIndex := 12, attributes := #[] }, { accessFlags := 18, nameIndex := 15, descriptorIndex := 12, attributes := #[] }, { accessFlags := 18, nameIndex := 18, descriptorIndex := 12, attributes := #[] }, { accessFlags := 26, nameIndex := 143, descriptorIndex := 144, attributes := #[] }, { accessFlags := 26, nameIndex := 62, descriptorIndex := 63, attributes := #[] }])
  fields := #[{ name := "first", type := .long, accessFlags := 18, slot := 0, constantValue := 0 }, { name := "last", type := .long, accessFlags := 18, slot := 1, constantValue := 0 }, { name := "size", type := .long, accessFlags := 18, slot := 2, constantValue := 0 }, { name := "UNIT", type := (.object "java/lang/String"), accessFlags := 26, slot := 0, constantValue := 0 }, { name := "SPEC", type := (.object "java/util/regex/Pattern"), accessFlags := 26, slot := 1, constantValue := 0 }]
  methods := #[k3m0, k3m1, k3m2]
  instanceTypes := #[.long, .long, .long]
  staticTypes := #[(.object "java/lang/String"), (.object "java/util/regex/Pattern")]
  resolved := Array.replicate 191 none
  statics := none }

def pool4 : Array CpInfo := pool [(1, u "java/lang/Cloneable"), (0, .class_ 1), (0, u "java/lang/Object"), (0, .class_ 3)] 3

/-- java/lang/Cloneable -/
def k4 : Class := { plain "java/lang/Cloneable" (some 0) with
  accessFlags := 1537
  interfaces := #[]
  cf := some (fileOf pool4 2 #[] #[] 1537 4 #[] #[])
  fields := #[]
  methods := #[]
  instanceTypes := #[]
  staticTypes := #[]
  resolved := Array.replicate 8 none
  statics := none }

def pool5 : Array CpInfo := pool [(1, u "java/io/Serializable"), (0, .class_ 1), (0, u "java/lang/Object"), (0, .class_ 3)] 3

/-- java/io/Serializable -/
def k5 : Class := { plain "java/io/Serializable" (some 0) with
  accessFlags := 1537
  interfaces := #[]
  cf := some (fileOf pool5 2 #[] #[] 1537 4 #[] #[])
  fields := #[]
  methods := #[]
  instanceTypes := #[]
  staticTypes := #[]
  resolved := Array.replicate 8 none
  statics := none }

/-- the primitive byte -/
def k6 : Class := { plain "byte" none with kind := .primitive 'B', accessFlags := 0x411 }
/-- [B -/
def k7 : Class := { plain "[B" (some 0) with kind := .array 6 .byte, interfaces := #[4, 5], accessFlags := 1041 }

/-- the primitive int -/
def k8 : Class := { plain "int" none with kind := .primitive 'I', accessFlags := 0x411 }
/-- [I -/
def k9 : Class := { plain "[I" (some 0) with kind := .array 8 .int, interfaces := #[4, 5], accessFlags := 1041 }

def heap : Heap := #[]
def classes : Array Class := #[k0, k1, k2, k3, k4, k5, k6, k7, k8, k9]
def interned : List (Array UInt16 × Addr) := []
def slotsUsed : Nat := 0
def theMethod : MethodId := ⟨1, 1⟩
def args0 : Array Value := #[.long 5, .long 300, .long 7, .int 1]
def aboutOver (below : List Frame) : State where
  vm := { classes := classes, interned := interned.toArray }
  heap := heap
  slotsUsed := slotsUsed
  threads := #[{ frames := .invoking theMethod args0 :: below }]
def below0 : List Frame := [.native { method := ⟨0, 0⟩, args := #[] }]
def about1 : State := aboutOver below0
def p0 : Program := .bare "" "" ""
def e0 : Env := launch0.env 0 0 0
theorem w_frames : about1.frames = Frame.invoking theMethod args0 :: below0 := rfl
set_option maxRecDepth 65536 in
theorem w_args : argsFit about1.vm theMethod args0 = true := by decide +kernel
set_option maxRecDepth 65536 in
theorem w_heap : heapFits about1 = true := by decide +kernel
set_option maxRecDepth 65536 in
theorem w_runnable : about1.curStatus? = some .runnable := by decide +kernel
set_option maxRecDepth 65536 in
theorem w_alone : about1.alone = true := by decide +kernel
set_option maxRecDepth 65536 in
theorem w_named : about1.methodNamed? x = some theMethod := by decide +kernel
set_option maxRecDepth 65536 in
theorem w_hears : about1.hears theMethod below0 = true := by decide +kernel
set_option maxRecDepth 65536 in
theorem w_ripe : about1.ripe theMethod args0 below0 = true := by decide +kernel
theorem w_running : about1.status = .running := rfl
set_option maxRecDepth 65536 in
theorem w_room : about1.hasRoom e0.platform room_1 = true :=
  launch0.hasRoom_least _ room_1 (by decide +kernel) (by decide +kernel) (by decide +kernel) (by decide +kernel) (by decide +kernel) (by decide +kernel)
theorem allAtoms_all (ts : List Jvm.Cond) (a : Array Jvm.Value) (st : Jvm.State) : (allAtoms ts).before a st = ts.all (fun c => c.before a st) := by
  induction ts with
  | nil => rfl
  | cons c t ih =>
    show (Jvm.Cond.and c (allAtoms t)).before a st = _
    rw [Jvm.Cond.before_and, ih, List.all_cons]
def words1 : List Jvm.Cond := Jvm.Cond.code x code maxLocals ret :: tables_1
/-- a 'code' word, met by the world's own term for the bytes: nothing is compared byte by byte -/
theorem code_word {y : MethodName} {bytes : ByteArray} {mx : Nat} {rt : Option FieldType} {a : Array Value} {s : State} {m : MethodId} {meth : Method} {c : Code} (h1 : s.methodNamed? y = some m) (h2 : s.vm.method? m = some meth) (h3 : meth.code = some c) (h4 : c.code = bytes)
    (h5 : (c.maxLocals == mx && c.exceptionTable.isEmpty && decide (c.maxStack ≤ mostOperands) && decide (meth.sig.returnType = rt) && !meth.locks && decide (parseMethodDescriptor y.desc = some meth.sig)) = true) : (Jvm.Cond.code y bytes mx rt).before a s = true := by
  simp only [Bool.and_eq_true, beq_iff_eq, Bool.not_eq_true', decide_eq_true_eq] at h5
  obtain ⟨⟨⟨⟨⟨g1, g2⟩, g3⟩, g4⟩, g5⟩, g6⟩ := h5
  simp [Cond.before, Cond.holds, Cond.value, h1, h2, h3, h4, g1, g2, g3, g4, g5, g6]
def isCode : Jvm.Cond → Bool
  | .code _ _ _ _ => true
  | _ => false
theorem all_split {L : List Jvm.Cond} {P : Jvm.Cond → Bool} (h1 : L.all (fun c => isCode c || P c) = true) (h2 : ∀ c ∈ L.filter isCode, P c = true) : L.all P = true := by
  refine List.all_eq_true.mpr fun c hc => ?_
  have h := List.all_eq_true.mp h1 c hc
  rcases Bool.eq_false_or_eq_true (isCode c) with hi | hi
  · exact h2 c (List.mem_filter.mpr ⟨hc, hi⟩)
  · simpa [hi] using h
set_option maxRecDepth 65536 in
theorem w_c0 : (Jvm.Cond.code x code maxLocals ret).before args0 about1 = true := code_word (m := ⟨1, 1⟩) (meth := k1m1) (c := k1c1) (by decide +kernel) rfl rfl rfl (by decide +kernel)
set_option maxRecDepth 65536 in
theorem w_c1 : (Jvm.Cond.code ({ cls := "com/example/larder/larder/http/ByteRange", name := "<init>", desc := "(JJJ)V" } : Jvm.MethodName) prog_41_method_1_code (7 : Nat) (Option.none : Option Jvm.ClassFile.FieldType)).before args0 about1 = true := code_word (m := ⟨3, 0⟩) (meth := k3m0) (c := k3c0) (by decide +kernel) rfl rfl rfl (by decide +kernel)
set_option maxRecDepth 65536 in
theorem w_c2 : (Jvm.Cond.code ({ cls := "java/lang/Record", name := "<init>", desc := "()V" } : Jvm.MethodName) jdk_30_method_1_code (1 : Nat) (Option.none : Option Jvm.ClassFile.FieldType)).before args0 about1 = true := code_word (m := ⟨2, 0⟩) (meth := k2m0) (c := k2c0) (by decide +kernel) rfl rfl rfl (by decide +kernel)
set_option maxRecDepth 65536 in
theorem w_c3 : (Jvm.Cond.code ({ cls := "java/lang/Object", name := "<init>", desc := "()V" } : Jvm.MethodName) object_method_1_code (1 : Nat) (Option.none : Option Jvm.ClassFile.FieldType)).before args0 about1 = true := code_word (m := ⟨0, 0⟩) (meth := k0m0) (c := k0c0) (by decide +kernel) rfl rfl rfl (by decide +kernel)
set_option maxRecDepth 65536 in
theorem w_c4 : (Jvm.Cond.code ({ cls := "com/example/larder/larder/http/ByteRange", name := "length", desc := "()J" } : Jvm.MethodName) prog_41_method_4_code (1 : Nat) (Option.some Jvm.ClassFile.FieldType.long)).before args0 about1 = true := code_word (m := ⟨3, 2⟩) (meth := k3m2) (c := k3c2) (by decide +kernel) rfl rfl rfl (by decide +kernel)
set_option maxRecDepth 65536 in
theorem w_c5 : (Jvm.Cond.code ({ cls := "com/example/larder/larder/http/ByteRange", name := "satisfiable", desc := "()Z" } : Jvm.MethodName) prog_41_method_3_code (1 : Nat) (Option.some Jvm.ClassFile.FieldType.boolean)).before args0 about1 = true := code_word (m := ⟨3, 1⟩) (meth := k3m1) (c := k3c1) (by decide +kernel) rfl rfl rfl (by decide +kernel)
def codes1 : List Jvm.Cond := [Jvm.Cond.code x code maxLocals ret, Jvm.Cond.code ({ cls := "com/example/larder/larder/http/ByteRange", name := "<init>", desc := "(JJJ)V" } : Jvm.MethodName) prog_41_method_1_code (7 : Nat) (Option.none : Option Jvm.ClassFile.FieldType), Jvm.Cond.code ({ cls := "java/lang/Record", name := "<init>", desc := "()V" } : Jvm.MethodName) jdk_30_method_1_code (1 : Nat) (Option.none : Option Jvm.ClassFile.FieldType), Jvm.Cond.code ({ cls := "java/lang/Object", name := "<init>", desc := "()V" } : Jvm.MethodName) object_method_1_code (1 : Nat) (Option.none : Option Jvm.ClassFile.FieldType), Jvm.Cond.code ({ cls := "com/example/larder/larder/http/ByteRange", name := "length", desc := "()J" } : Jvm.MethodName) prog_41_method_4_code (1 : Nat) (Option.some Jvm.ClassFile.FieldType.long), Jvm.Cond.code ({ cls := "com/example/larder/larder/http/ByteRange", name := "satisfiable", desc := "()Z" } : Jvm.MethodName) prog_41_method_3_code (1 : Nat) (Option.some Jvm.ClassFile.FieldType.boolean)]
set_option maxRecDepth 65536 in
theorem codes_eq : words1.filter isCode = codes1 := rfl
theorem w_codes : ∀ c ∈ words1.filter isCode, c.before args0 about1 = true := by
  rw [codes_eq]
  intro c hc
  simp only [codes1, List.mem_cons, List.not_mem_nil, or_false] at hc
  rcases hc with rfl | rfl | rfl | rfl | rfl | rfl
  · exact w_c0
  · exact w_c1
  · exact w_c2
  · exact w_c3
  · exact w_c4
  · exact w_c5
set_option maxRecDepth 65536 in
theorem w_t1 : (words1.take 24).all (fun c => isCode c || c.before args0 about1) = true := by decide +kernel
set_option maxRecDepth 65536 in
theorem w_t2 : (words1.drop 24).all (fun c => isCode c || c.before args0 about1) = true := by decide +kernel
theorem w_tables : (allAtoms (Jvm.Cond.code x code maxLocals ret :: tables_1)).before args0 about1 = true := by
  rw [allAtoms_all]
  show words1.all (fun c => c.before args0 about1) = true
  refine all_split ?_ w_codes
  rw [← List.take_append_drop 24 words1, List.all_append, w_t1, w_t2]
  rfl
set_option maxRecDepth 65536 in
theorem w_case : (Jvm.Cond.and given_1 narrow_1).before args0 about1 = true := by decide +kernel
theorem w_applies : (headSpec (Jvm.Cond.code x code maxLocals ret :: tables_1) room_1).applies x e0.platform about1 = true :=
  (Spec.applies_iff w_frames).mpr ⟨w_running, w_runnable, w_alone, w_named, w_hears, w_ripe, w_room, w_tables⟩
theorem atStart : AtStart classFile x code maxLocals ret World_1 tables_1 room_1 Calls_1 rest_1 Pre_1 launch0 p0 e0 about1 theMethod args0 below0 :=
  ⟨lists_1, trivial, launch0.admits_env _ _ _, launch0.least_env, fairChoices_fair.cas, fairChoices_fair.clock, w_frames, w_args, w_heap, w_applies, trivial, trivial, w_case⟩
end start1
theorem witness_1 : WitnessClaimed_1 := ⟨start1.p0, start1.e0, start1.about1, start1.theMethod, start1.args0, start1.below0, start1.atStart⟩
end Jvm.Pilot.@@N@@
