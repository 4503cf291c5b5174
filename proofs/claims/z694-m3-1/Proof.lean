import JvmDerived
import JvmDerived.Pilot.@@N@@Statement
import JvmDerived.Pilot.@@N@@Code
set_option linter.unusedVariables false
set_option linter.unusedSimpArgs false
namespace Jvm.RoadKit
open Sem ClassFile Op Lib Jvm.Stand Jvm.Free Jvm.LawKit
section New
variable {p : Program} {l : Launch} {e : Env} {R : Room} {s : State} {m : MethodId} {args : Array Value} {below : List Frame} {meth : Method} {c : Code} {T : State} {locs : List Loc} {cells slots : Nat}
theorem retI (X : Stand p l e R s m args below meth c T locs cells slots) (hx : p.tables.exec = Jvm.exec) {pc : Nat} {Ls : Array Slot} {z : Int32} {rest : List Value} (hret : meth.sig.returnType = some .int) (hd : decode c.code pc = .ok (.ireturn, 1)) {fs : List Frame}
    (hl : ∀ (f : JFrame) (acts : List Action), f.method = m → f.locked = none → f.entered = [] → (doReturn e (T.setTop f) acts (some (.int z))).1 = T.setFrames fs) : Steps p.tables e below (T.setTop (mkF m pc Ls (.int z :: rest))) (T.setFrames fs) := by
  have hm' : T.vm.method? m = some meth := X.method'
  have hn : narrow .int (.int z) = .int z := rfl
  show Steps p.tables e below (T.setTop { method := m, pc := pc, locals := Ls, stack := _ :: rest, locked := none }) _
  jvm_step X.here [X.here.top, hx, hd, hm', hret, hn]
  first | (intro acts; rw [hl _ acts rfl rfl rfl]) | rw [hl _ _ rfl rfl rfl]
  exact Steps.refl _
end New
end Jvm.RoadKit
namespace Jvm.Pilot.@@N@@
open Jvm Jvm.ClassFile Sem Op Lib Jvm.Free Jvm.Stand Jvm.LawKit Jvm.RoadKit Bundle Jvm.Pilot.@@N@@.Jvm.D
theorem own_rem (x y : Int32) : x - (x / y) * y = x % y := by
  refine Int32.toInt_inj.mp ?_
  have lo := (x % y).le_toInt
  have hi := (x % y).toInt_lt
  have t : (x % y).toInt = x.toInt - x.toInt.tdiv y.toInt * y.toInt := by
    rw [Int32.toInt_mod, Int.tmod_def, Int.mul_comm]
  have u : (x - (x / y) * y).toInt = (x.toInt - x.toInt.tdiv y.toInt * y.toInt).bmod (2 ^ 32) := by
    simp only [Int32.toInt_sub, Int32.toInt_mul, Int32.toInt_div, Int.bmod_mul_bmod, Int.sub_bmod_bmod]
  rw [u, ← t, Int.bmod_def]
  omega
def own_D (n : Nat) : UInt64 := FP.ddiv (FP.i2d (Int32.ofNat n)) (4625196817309499392 : UInt64)
def own_U (n : Nat) : UInt64 := FP.ddiv (FP.i2d (Int32.ofNat n)) (4643211215818981376 : UInt64)
theorem own_D0 : FP.dconst0 = own_D 0 := by decide +kernel
theorem own_addF : ∀ a : Fin 17, ∀ b : Fin 17, a.1 + b.1 ≤ 16 → FP.dadd (own_D a.1) (own_D b.1) = own_D (a.1 + b.1) := by decide +kernel
theorem own_add (a b : Nat) (h : a + b ≤ 16) : FP.dadd (own_D a) (own_D b) = own_D (a + b) := own_addF ⟨a, by omega⟩ ⟨b, by omega⟩ h
theorem own_nanF : ∀ a : Fin 17, (own_D a.1 &&& 0x7fffffffffffffff) ≤ 0x7ff0000000000000 := by decide +kernel
theorem own_nanG : ∀ a : Fin 256, (own_U a.1 &&& 0x7fffffffffffffff) ≤ 0x7ff0000000000000 := by decide +kernel
theorem own_nan (a : Nat) (h : a ≤ 16) : Jvm.Free.Fl.NoNaN64 (own_D a) := own_nanF ⟨a, by omega⟩
theorem own_nanU (a : Nat) (h : a < 256) : Jvm.Free.Fl.NoNaN64 (own_U a) := own_nanG ⟨a, h⟩
theorem own_nan2 (a b : Nat) (h : a + b ≤ 16) : Jvm.Free.Fl.NoNaN64 (FP.dadd (own_D a) (own_D b)) := by rw [own_add a b h]; exact own_nan _ h
theorem own_gtF : ∀ a : Fin 17, ((0 : Int32) < cmpValue (FP.dcmp (own_D a.1) (own_D 0)) .l) ↔ 0 < a.1 := by decide +kernel
theorem own_gt (a : Nat) (h : a ≤ 16) : ((0 : Int32) < cmpValue (FP.dcmp (own_D a) (own_D 0)) .l) ↔ 0 < a := own_gtF ⟨a, by omega⟩
theorem own_ltF : ∀ u : Fin 256, ∀ c : Fin 17, (cmpValue (FP.dcmp (own_U u.1) (own_D c.1)) .g < (0 : Int32)) ↔ u.1 < 16 * c.1 := by decide +kernel
theorem own_lt (u c : Nat) (hu : u < 256) (h : c ≤ 16) : (cmpValue (FP.dcmp (own_U u) (own_D c)) .g < (0 : Int32)) ↔ u < 16 * c := own_ltF ⟨u, hu⟩ ⟨c, by omega⟩
theorem d1_0 : decode prog_7_method_4_code 0 = .ok (.iconst (-1), 1) := by decide +kernel
theorem d1_1 : decode prog_7_method_4_code 1 = .ok (.istore_n 3, 1) := by decide +kernel
theorem d1_2 : decode prog_7_method_4_code 2 = .ok (.dconst 0, 1) := by decide +kernel
theorem d1_3 : decode prog_7_method_4_code 3 = .ok (.dstore 4, 2) := by decide +kernel
theorem d1_5 : decode prog_7_method_4_code 5 = .ok (.iconst 0, 1) := by decide +kernel
theorem d1_6 : decode prog_7_method_4_code 6 = .ok (.istore 6, 2) := by decide +kernel
theorem d1_8 : decode prog_7_method_4_code 8 = .ok (.iload 6, 2) := by decide +kernel
theorem d1_10 : decode prog_7_method_4_code 10 = .ok (.aload_n 0, 1) := by decide +kernel
theorem d1_11 : decode prog_7_method_4_code 11 = .ok (.arraylength, 1) := by decide +kernel
theorem d1_12 : decode prog_7_method_4_code 12 = .ok (.if_icmp .ge 40, 3) := by decide +kernel
theorem d1_15 : decode prog_7_method_4_code 15 = .ok (.aload_n 0, 1) := by decide +kernel
theorem d1_16 : decode prog_7_method_4_code 16 = .ok (.iload 6, 2) := by decide +kernel
theorem d1_18 : decode prog_7_method_4_code 18 = .ok (.daload, 1) := by decide +kernel
theorem d1_19 : decode prog_7_method_4_code 19 = .ok (.dconst 0, 1) := by decide +kernel
theorem d1_20 : decode prog_7_method_4_code 20 = .ok (.dcmp .l, 1) := by decide +kernel
theorem d1_21 : decode prog_7_method_4_code 21 = .ok (.ifCond .le 25, 3) := by decide +kernel
theorem d1_24 : decode prog_7_method_4_code 24 = .ok (.iload 6, 2) := by decide +kernel
theorem d1_26 : decode prog_7_method_4_code 26 = .ok (.istore_n 3, 1) := by decide +kernel
theorem d1_27 : decode prog_7_method_4_code 27 = .ok (.dload 4, 2) := by decide +kernel
theorem d1_29 : decode prog_7_method_4_code 29 = .ok (.aload_n 0, 1) := by decide +kernel
theorem d1_30 : decode prog_7_method_4_code 30 = .ok (.iload 6, 2) := by decide +kernel
theorem d1_32 : decode prog_7_method_4_code 32 = .ok (.daload, 1) := by decide +kernel
theorem d1_33 : decode prog_7_method_4_code 33 = .ok (.dadd, 1) := by decide +kernel
theorem d1_34 : decode prog_7_method_4_code 34 = .ok (.dstore 4, 2) := by decide +kernel
theorem d1_36 : decode prog_7_method_4_code 36 = .ok (.dload_n 1, 1) := by decide +kernel
theorem d1_37 : decode prog_7_method_4_code 37 = .ok (.dload 4, 2) := by decide +kernel
theorem d1_39 : decode prog_7_method_4_code 39 = .ok (.dcmp .g, 1) := by decide +kernel
theorem d1_40 : decode prog_7_method_4_code 40 = .ok (.ifCond .ge 6, 3) := by decide +kernel
theorem d1_43 : decode prog_7_method_4_code 43 = .ok (.goto 9, 3) := by decide +kernel
theorem d1_46 : decode prog_7_method_4_code 46 = .ok (.iinc 6 1, 3) := by decide +kernel
theorem d1_49 : decode prog_7_method_4_code 49 = .ok (.goto (-41), 3) := by decide +kernel
theorem d1_52 : decode prog_7_method_4_code 52 = .ok (.iload_n 3, 1) := by decide +kernel
theorem d1_53 : decode prog_7_method_4_code 53 = .ok (.ifCond .ge 13, 3) := by decide +kernel
theorem d1_66 : decode prog_7_method_4_code 66 = .ok (.iload_n 3, 1) := by decide +kernel
theorem d1_67 : decode prog_7_method_4_code 67 = .ok (.ireturn, 1) := by decide +kernel
theorem pn1 : plainName "com/example/braided_tour/braidedtour/choice/Logit" = true := by first | (simp [plainName, overriddenIn]; done) | decide +kernel
theorem ef1 (m : MethodId) (a1 : Addr) (uu : Nat) : entryFrame m #[(.ref a1), (.double (own_U uu))] 7 = mkF m 0 #[.val (.ref a1), .val (.double (own_U uu)), .second, .unset, .unset, .unset, .unset] [] := by first | (simp [entryFrame, mkF, argsToLocals, Value.category]; done) | rfl
def own_draw (m0 : Nat) (m1 : Nat) (m2 : Nat) (m3 : Nat) (uu : Nat) : Int32 := (if 0 < m0 then (if uu < 16 * (0 + m0) then (0 : Int32) else (if 0 < m1 then (if uu < 16 * ((0 + m0) + m1) then (1 : Int32) else (if 0 < m2 then (if uu < 16 * (((0 + m0) + m1) + m2) then (2 : Int32) else (if 0 < m3 then (3 : Int32) else (2 : Int32))) else (if 0 < m3 then (3 : Int32) else (1 : Int32)))) else (if 0 < m2 then (if uu < 16 * ((0 + m0) + m2) then (2 : Int32) else (if 0 < m3 then (3 : Int32) else (2 : Int32))) else (if 0 < m3 then (3 : Int32) else (0 : Int32))))) else (if 0 < m1 then (if uu < 16 * (0 + m1) then (1 : Int32) else (if 0 < m2 then (if uu < 16 * ((0 + m1) + m2) then (2 : Int32) else (if 0 < m3 then (3 : Int32) else (2 : Int32))) else (if 0 < m3 then (3 : Int32) else (1 : Int32)))) else (if 0 < m2 then (if uu < 16 * (0 + m2) then (2 : Int32) else (if 0 < m3 then (3 : Int32) else (2 : Int32))) else (3 : Int32))))
def Q1 (Z : State) (a1 : Addr) (kk : ClassId) (m0 : Nat) (m1 : Nat) (m2 : Nat) (m3 : Nat) (uu : Nat) (h0 : Heap) (n0 : Nat) (v : Option Value) (h : Heap) (L : List Loc) : Prop := v = some (.int (own_draw m0 m1 m2 m3 uu)) ∧ Fr n0 L ∧ h = h0
set_option maxRecDepth 65536 in
set_option maxHeartbeats 40000000 in
theorem rm1 (l : Launch) (Z : State) (a0 : Array Value) (hw : ∀ d ∈ tables_1, d.before a0 Z = true) (ws : List Jvm.Cond) (a1 : Addr) (kk : ClassId) (m0 : Nat) (m1 : Nat) (m2 : Nat) (m3 : Nat) (uu : Nat) (h0 : Heap) (n0 : Nat) (Z0 : n0 ≤ h0.size) (V0 : Arv Z h0 a1 kk .double (4 : Int32) [(.double (own_D m0)), (.double (own_D m1)), (.double (own_D m2)), (.double (own_D m3))] (.double 0)) (hs : m0 + m1 + m2 + m3 ≤ 16) (hp : 0 < m0 + m1 + m2 + m3) (hu : uu < 256) :
    MetFree l (⟨"com/example/braided_tour/braidedtour/choice/Logit", "draw", "([DD)I"⟩ : MethodName) (head1 (Jvm.Cond.code (⟨"com/example/braided_tour/braidedtour/choice/Logit", "draw", "([DD)I"⟩ : MethodName) prog_7_method_4_code 7 (some .int) :: ws) ({ frames := 0, cells := 0, slots := 0, locals := 0 } : Room)) (fun a U => a = #[(.ref a1), (.double (own_U uu))] ∧ Z.Warmed39 U.vm ∧ U.heap = h0) (fun _ _ _ _ _ => True) (fun _ U o U' => ∃ v L, o = .returned v ∧ Q1 Z a1 kk m0 m1 m2 m3 uu h0 n0 v U'.heap L ∧ FrameEnd U o U' L ({ frames := 0, cells := 0, slots := 0, locals := 0 } : Room).cells ({ frames := 0, cells := 0, slots := 0, locals := 0 } : Room).slots) := by
  refine MetFree.of_bodySF (plainFor_of_name pn1) hisR ?_
  intro p e s m args below meth c s₁ Bd hml0 hP hK
  obtain ⟨rfl, hZ, hh⟩ := hP
  have hx := Bd.exec
  have hby := Bd.bytes
  have hml : c.maxLocals = 7 := hml0
  have hown : s.vm.findClass "com/example/braided_tour/braidedtour/choice/Logit" = some m.cls := findClass_of_methodNamed Bd.named
  have hnm := (name_of_methodNamed Bd.named Bd.method).1
  have X0 : Stand p l e ({ frames := 0, cells := 0, slots := 0, locals := 0 } : Room) s m #[(.ref a1), (.double (own_U uu))] below meth c s₁ [] 0 0 := Stand.of_body Bd
  have e0 : s₁.heap = h0 := by rw [← hh, Bd.state]; rfl
  have N0 := Fr.nil n0
  have pre0 : ∀ t, Steps p.tables e below (s₁.setTop (mkF m 0 #[.val (.ref a1), .val (.double (own_U uu)), .second, .unset, .unset, .unset, .unset] [])) t → Steps p.tables e below (s₁.setTop (entryFrame m #[(.ref a1), (.double (own_U uu))] 7)) t := fun t k => castTop (ef1 m a1 uu) k
  have cp11_1 := V0
  obtain ⟨cl11_1, Ar11_1, -, Sa11_1, Na11_1, -, -⟩ := cp11_1
  have cp18_2 := V0
  obtain ⟨cl18_2, Ar18_2, -, Sa18_2, Na18_2, Ha18_2, -⟩ := cp18_2
  have hin18_2 : ¬ ((0 : Int32) < 0 ∨ cl18_2.slots.size ≤ ((0 : Int32)).toNatClampNeg) := inb_of Sa18_2 ⟨by decide, by decide⟩
  have hat18_2 : cl18_2.slots[((0 : Int32)).toNatClampNeg]? = some (.double (own_D m0)) := Ha18_2.at hin18_2 rfl
  have c3 : ∀ t, Steps p.tables e below (s₁.setTop (mkF m 21 #[.val (.ref a1), .val (.double (own_U uu)), .second, .val (.int (-1 : Int32)), .val (.double (own_D 0)), .second, .val (.int (0 : Int32))] [(.int (cmpValue (FP.dcmp (own_D m0) (own_D 0)) .l))])) t → Steps p.tables e below (s₁.setTop (entryFrame m #[(.ref a1), (.double (own_U uu))] 7)) t := fun t kt => by
    refine pre0 _ ?_
    show Steps p.tables e below (s₁.setTop (mkF m 0 #[.val (.ref a1), .val (.double (own_U uu)), .second, .unset, .unset, .unset, .unset] [])) _
    refine XS.iconst X0.here hx rfl (hb hby d1_0) ?_
    show Steps p.tables e below (s₁.setTop (mkF m 1 #[.val (.ref a1), .val (.double (own_U uu)), .second, .unset, .unset, .unset, .unset] [(.int (-1 : Int32))])) _
    refine XS.istoreN X0.here hx rfl (hb hby d1_1) rfl (l' := #[.val (.ref a1), .val (.double (own_U uu)), .second, .val (.int (-1 : Int32)), .unset, .unset, .unset]) rfl ?_
    show Steps p.tables e below (s₁.setTop (mkF m 2 #[.val (.ref a1), .val (.double (own_U uu)), .second, .val (.int (-1 : Int32)), .unset, .unset, .unset] [])) _
    refine XS.dconst0 X0.here hx rfl (v := (own_D 0)) (hb hby d1_2) own_D0 ?_
    show Steps p.tables e below (s₁.setTop (mkF m 3 #[.val (.ref a1), .val (.double (own_U uu)), .second, .val (.int (-1 : Int32)), .unset, .unset, .unset] [(.double (own_D 0))])) _
    refine XS.dstore X0.here hx rfl (hb hby d1_3) rfl (l' := #[.val (.ref a1), .val (.double (own_U uu)), .second, .val (.int (-1 : Int32)), .val (.double (own_D 0)), .second, .unset]) rfl ?_
    show Steps p.tables e below (s₁.setTop (mkF m 5 #[.val (.ref a1), .val (.double (own_U uu)), .second, .val (.int (-1 : Int32)), .val (.double (own_D 0)), .second, .unset] [])) _
    refine XS.iconst X0.here hx rfl (hb hby d1_5) ?_
    show Steps p.tables e below (s₁.setTop (mkF m 6 #[.val (.ref a1), .val (.double (own_U uu)), .second, .val (.int (-1 : Int32)), .val (.double (own_D 0)), .second, .unset] [(.int (0 : Int32))])) _
    refine XS.istore X0.here hx rfl (hb hby d1_6) rfl (l' := #[.val (.ref a1), .val (.double (own_U uu)), .second, .val (.int (-1 : Int32)), .val (.double (own_D 0)), .second, .val (.int (0 : Int32))]) rfl ?_
    show Steps p.tables e below (s₁.setTop (mkF m 8 #[.val (.ref a1), .val (.double (own_U uu)), .second, .val (.int (-1 : Int32)), .val (.double (own_D 0)), .second, .val (.int (0 : Int32))] [])) _
    refine XS.iload X0.here hx rfl (hb hby d1_8) rfl ?_
    show Steps p.tables e below (s₁.setTop (mkF m 10 #[.val (.ref a1), .val (.double (own_U uu)), .second, .val (.int (-1 : Int32)), .val (.double (own_D 0)), .second, .val (.int (0 : Int32))] [(.int (0 : Int32))])) _
    refine XS.aloadN X0.here hx rfl (hb hby d1_10) rfl rfl ?_
    show Steps p.tables e below (s₁.setTop (mkF m 11 #[.val (.ref a1), .val (.double (own_U uu)), .second, .val (.int (-1 : Int32)), .val (.double (own_D 0)), .second, .val (.int (0 : Int32))] [(.ref a1), (.int (0 : Int32))])) _
    refine X0.arraylength hx (by first | exact Ar11_1.1 | (rw [e0]; exact Ar11_1.1)) (State.isArrayOf_alike hZ.alike Ar11_1.2.1) (g := (mkF m 11 #[.val (.ref a1), .val (.double (own_U uu)), .second, .val (.int (-1 : Int32)), .val (.double (own_D 0)), .second, .val (.int (0 : Int32))] [(.ref a1), (.int (0 : Int32))])) rfl rfl (hb hby d1_11) _ ?_
    rw [len_of Sa11_1 Na11_1]
    show Steps p.tables e below (s₁.setTop (mkF m 12 #[.val (.ref a1), .val (.double (own_U uu)), .second, .val (.int (-1 : Int32)), .val (.double (own_D 0)), .second, .val (.int (0 : Int32))] [(.int (4 : Int32)), (.int (0 : Int32))])) _
    refine XS.icmpNo X0.here hx rfl (hb hby d1_12) rfl (tlt (by decide)).2.1 ?_
    show Steps p.tables e below (s₁.setTop (mkF m 15 #[.val (.ref a1), .val (.double (own_U uu)), .second, .val (.int (-1 : Int32)), .val (.double (own_D 0)), .second, .val (.int (0 : Int32))] [])) _
    refine XS.aloadN X0.here hx rfl (hb hby d1_15) rfl rfl ?_
    show Steps p.tables e below (s₁.setTop (mkF m 16 #[.val (.ref a1), .val (.double (own_U uu)), .second, .val (.int (-1 : Int32)), .val (.double (own_D 0)), .second, .val (.int (0 : Int32))] [(.ref a1)])) _
    refine XS.iload X0.here hx rfl (hb hby d1_16) rfl ?_
    show Steps p.tables e below (s₁.setTop (mkF m 18 #[.val (.ref a1), .val (.double (own_U uu)), .second, .val (.int (-1 : Int32)), .val (.double (own_D 0)), .second, .val (.int (0 : Int32))] [(.int (0 : Int32)), (.ref a1)])) _
    refine X0.daload hx (j := (0 : Int32)) (v := (.double (own_D m0))) (by first | exact Ar18_2.1 | (rw [e0]; exact Ar18_2.1)) (State.isArrayOf_alike hZ.alike Ar18_2.2.1) Ar18_2.2.2 hin18_2 hat18_2 (g := (mkF m 18 #[.val (.ref a1), .val (.double (own_U uu)), .second, .val (.int (-1 : Int32)), .val (.double (own_D 0)), .second, .val (.int (0 : Int32))] [(.int (0 : Int32)), (.ref a1)])) rfl rfl (hb hby d1_18) _ ?_
    show Steps p.tables e below (s₁.setTop (mkF m 19 #[.val (.ref a1), .val (.double (own_U uu)), .second, .val (.int (-1 : Int32)), .val (.double (own_D 0)), .second, .val (.int (0 : Int32))] [(.double (own_D m0))])) _
    refine XS.dconst0 X0.here hx rfl (v := (own_D 0)) (hb hby d1_19) own_D0 ?_
    show Steps p.tables e below (s₁.setTop (mkF m 20 #[.val (.ref a1), .val (.double (own_U uu)), .second, .val (.int (-1 : Int32)), .val (.double (own_D 0)), .second, .val (.int (0 : Int32))] [(.double (own_D 0)), (.double (own_D m0))])) _
    refine XS.dcmpS X0.here hx rfl (hb hby d1_20) rfl rfl ?_
    exact kt
  by_cases hc21 : 0 < m0
  · have cp32_4 := V0
    obtain ⟨cl32_4, Ar32_4, -, Sa32_4, Na32_4, Ha32_4, -⟩ := cp32_4
    have hin32_4 : ¬ ((0 : Int32) < 0 ∨ cl32_4.slots.size ≤ ((0 : Int32)).toNatClampNeg) := inb_of Sa32_4 ⟨by decide, by decide⟩
    have hat32_4 : cl32_4.slots[((0 : Int32)).toNatClampNeg]? = some (.double (own_D m0)) := Ha32_4.at hin32_4 rfl
    have c5 : ∀ t, Steps p.tables e below (s₁.setTop (mkF m 40 #[.val (.ref a1), .val (.double (own_U uu)), .second, .val (.int (0 : Int32)), .val (.double (own_D (0 + m0))), .second, .val (.int (0 : Int32))] [(.int (cmpValue (FP.dcmp (own_U uu) (own_D (0 + m0))) .g))])) t → Steps p.tables e below (s₁.setTop (entryFrame m #[(.ref a1), (.double (own_U uu))] 7)) t := fun t kt => by
      refine c3 _ ?_
      show Steps p.tables e below (s₁.setTop (mkF m 21 #[.val (.ref a1), .val (.double (own_U uu)), .second, .val (.int (-1 : Int32)), .val (.double (own_D 0)), .second, .val (.int (0 : Int32))] [(.int (cmpValue (FP.dcmp (own_D m0) (own_D 0)) .l))])) _
      refine XS.ifNo X0.here hx rfl (hb hby d1_21) rfl ((if0 _ _).trans (tlt ((own_gt m0 (by omega)).mpr hc21)).2.2.2) ?_
      show Steps p.tables e below (s₁.setTop (mkF m 24 #[.val (.ref a1), .val (.double (own_U uu)), .second, .val (.int (-1 : Int32)), .val (.double (own_D 0)), .second, .val (.int (0 : Int32))] [])) _
      refine XS.iload X0.here hx rfl (hb hby d1_24) rfl ?_
      show Steps p.tables e below (s₁.setTop (mkF m 26 #[.val (.ref a1), .val (.double (own_U uu)), .second, .val (.int (-1 : Int32)), .val (.double (own_D 0)), .second, .val (.int (0 : Int32))] [(.int (0 : Int32))])) _
      refine XS.istoreN X0.here hx rfl (hb hby d1_26) rfl (l' := #[.val (.ref a1), .val (.double (own_U uu)), .second, .val (.int (0 : Int32)), .val (.double (own_D 0)), .second, .val (.int (0 : Int32))]) rfl ?_
      show Steps p.tables e below (s₁.setTop (mkF m 27 #[.val (.ref a1), .val (.double (own_U uu)), .second, .val (.int (0 : Int32)), .val (.double (own_D 0)), .second, .val (.int (0 : Int32))] [])) _
      refine XS.dload X0.here hx rfl (hb hby d1_27) rfl ?_
      show Steps p.tables e below (s₁.setTop (mkF m 29 #[.val (.ref a1), .val (.double (own_U uu)), .second, .val (.int (0 : Int32)), .val (.double (own_D 0)), .second, .val (.int (0 : Int32))] [(.double (own_D 0))])) _
      refine XS.aloadN X0.here hx rfl (hb hby d1_29) rfl rfl ?_
      show Steps p.tables e below (s₁.setTop (mkF m 30 #[.val (.ref a1), .val (.double (own_U uu)), .second, .val (.int (0 : Int32)), .val (.double (own_D 0)), .second, .val (.int (0 : Int32))] [(.ref a1), (.double (own_D 0))])) _
      refine XS.iload X0.here hx rfl (hb hby d1_30) rfl ?_
      show Steps p.tables e below (s₁.setTop (mkF m 32 #[.val (.ref a1), .val (.double (own_U uu)), .second, .val (.int (0 : Int32)), .val (.double (own_D 0)), .second, .val (.int (0 : Int32))] [(.int (0 : Int32)), (.ref a1), (.double (own_D 0))])) _
      refine X0.daload hx (j := (0 : Int32)) (v := (.double (own_D m0))) (by first | exact Ar32_4.1 | (rw [e0]; exact Ar32_4.1)) (State.isArrayOf_alike hZ.alike Ar32_4.2.1) Ar32_4.2.2 hin32_4 hat32_4 (g := (mkF m 32 #[.val (.ref a1), .val (.double (own_U uu)), .second, .val (.int (0 : Int32)), .val (.double (own_D 0)), .second, .val (.int (0 : Int32))] [(.int (0 : Int32)), (.ref a1), (.double (own_D 0))])) rfl rfl (hb hby d1_32) _ ?_
      show Steps p.tables e below (s₁.setTop (mkF m 33 #[.val (.ref a1), .val (.double (own_U uu)), .second, .val (.int (0 : Int32)), .val (.double (own_D 0)), .second, .val (.int (0 : Int32))] [(.double (own_D m0)), (.double (own_D 0))])) _
      refine XS.daddS X0.here hx rfl (hb hby d1_33) rfl (v := (own_D (0 + m0))) (own_nan2 _ _ (by omega)) (own_add _ _ (by omega)) ?_
      show Steps p.tables e below (s₁.setTop (mkF m 34 #[.val (.ref a1), .val (.double (own_U uu)), .second, .val (.int (0 : Int32)), .val (.double (own_D 0)), .second, .val (.int (0 : Int32))] [(.double (own_D (0 + m0)))])) _
      refine XS.dstore X0.here hx rfl (hb hby d1_34) rfl (l' := #[.val (.ref a1), .val (.double (own_U uu)), .second, .val (.int (0 : Int32)), .val (.double (own_D (0 + m0))), .second, .val (.int (0 : Int32))]) rfl ?_
      show Steps p.tables e below (s₁.setTop (mkF m 36 #[.val (.ref a1), .val (.double (own_U uu)), .second, .val (.int (0 : Int32)), .val (.double (own_D (0 + m0))), .second, .val (.int (0 : Int32))] [])) _
      refine XS.dloadN X0.here hx rfl (hb hby d1_36) rfl ?_
      show Steps p.tables e below (s₁.setTop (mkF m 37 #[.val (.ref a1), .val (.double (own_U uu)), .second, .val (.int (0 : Int32)), .val (.double (own_D (0 + m0))), .second, .val (.int (0 : Int32))] [(.double (own_U uu))])) _
      refine XS.dload X0.here hx rfl (hb hby d1_37) rfl ?_
      show Steps p.tables e below (s₁.setTop (mkF m 39 #[.val (.ref a1), .val (.double (own_U uu)), .second, .val (.int (0 : Int32)), .val (.double (own_D (0 + m0))), .second, .val (.int (0 : Int32))] [(.double (own_D (0 + m0))), (.double (own_U uu))])) _
      refine XS.dcmpS X0.here hx rfl (hb hby d1_39) rfl rfl ?_
      exact kt
    by_cases hc40 : uu < 16 * (0 + m0)
    · obtain ⟨fs, hr, hrun, hended, hW, hsame⟩ := X0.leave (v := some (.int (0 : Int32))) (fun h => by rw [Bd.returns] at h; cases h)
      refine ⟨_, _, c5 _ ?_, hrun, hended, _, _, rfl, ?_, ⟨_, rfl⟩, hW, hsame.mono (by decide) (by decide)⟩
      · show Steps p.tables e below (s₁.setTop (mkF m 40 #[.val (.ref a1), .val (.double (own_U uu)), .second, .val (.int (0 : Int32)), .val (.double (own_D (0 + m0))), .second, .val (.int (0 : Int32))] [(.int (cmpValue (FP.dcmp (own_U uu) (own_D (0 + m0))) .g))])) _
        refine XS.ifNo X0.here hx rfl (hb hby d1_40) rfl ((if0 _ _).trans (tlt ((own_lt uu (0 + m0) hu (by omega)).mpr hc40)).2.1) ?_
        show Steps p.tables e below (s₁.setTop (mkF m 43 #[.val (.ref a1), .val (.double (own_U uu)), .second, .val (.int (0 : Int32)), .val (.double (own_D (0 + m0))), .second, .val (.int (0 : Int32))] [])) _
        refine XS.goto X0.here hx rfl (pc0 := 43) (pc' := 52) rfl (hb hby d1_43) (by decide) (by decide) ?_
        show Steps p.tables e below (s₁.setTop (mkF m 52 #[.val (.ref a1), .val (.double (own_U uu)), .second, .val (.int (0 : Int32)), .val (.double (own_D (0 + m0))), .second, .val (.int (0 : Int32))] [])) _
        refine XS.iloadN X0.here hx rfl (hb hby d1_52) rfl ?_
        show Steps p.tables e below (s₁.setTop (mkF m 53 #[.val (.ref a1), .val (.double (own_U uu)), .second, .val (.int (0 : Int32)), .val (.double (own_D (0 + m0))), .second, .val (.int (0 : Int32))] [(.int (0 : Int32))])) _
        refine XS.ifYes X0.here hx rfl (pc0 := 53) (pc' := 66) rfl (hb hby d1_53) rfl ((if0 _ _).trans (flt (by decide)).2.1) (by decide) (by decide) ?_
        show Steps p.tables e below (s₁.setTop (mkF m 66 #[.val (.ref a1), .val (.double (own_U uu)), .second, .val (.int (0 : Int32)), .val (.double (own_D (0 + m0))), .second, .val (.int (0 : Int32))] [])) _
        refine XS.iloadN X0.here hx rfl (hb hby d1_66) rfl ?_
        show Steps p.tables e below (s₁.setTop (mkF m 67 #[.val (.ref a1), .val (.double (own_U uu)), .second, .val (.int (0 : Int32)), .val (.double (own_D (0 + m0))), .second, .val (.int (0 : Int32))] [(.int (0 : Int32))])) _
        exact retI X0 hx Bd.returns (hb hby d1_67) hr
      · show Q1 Z a1 kk m0 m1 m2 m3 uu h0 n0 _ s₁.heap _
        rw [e0]
        have hv : (own_draw m0 m1 m2 m3 uu) = (0 : Int32) := by unfold own_draw; rw [if_pos hc21, if_pos hc40]
        exact ⟨by rw [hv], N0, rfl⟩
    · have cp11_6 := V0
      obtain ⟨cl11_6, Ar11_6, -, Sa11_6, Na11_6, -, -⟩ := cp11_6
      have cp18_7 := V0
      obtain ⟨cl18_7, Ar18_7, -, Sa18_7, Na18_7, Ha18_7, -⟩ := cp18_7
      have hin18_7 : ¬ ((1 : Int32) < 0 ∨ cl18_7.slots.size ≤ ((1 : Int32)).toNatClampNeg) := inb_of Sa18_7 ⟨by decide, by decide⟩
      have hat18_7 : cl18_7.slots[((1 : Int32)).toNatClampNeg]? = some (.double (own_D m1)) := Ha18_7.at hin18_7 rfl
      have c8 : ∀ t, Steps p.tables e below (s₁.setTop (mkF m 21 #[.val (.ref a1), .val (.double (own_U uu)), .second, .val (.int (0 : Int32)), .val (.double (own_D (0 + m0))), .second, .val (.int (1 : Int32))] [(.int (cmpValue (FP.dcmp (own_D m1) (own_D 0)) .l))])) t → Steps p.tables e below (s₁.setTop (entryFrame m #[(.ref a1), (.double (own_U uu))] 7)) t := fun t kt => by
        refine c5 _ ?_
        show Steps p.tables e below (s₁.setTop (mkF m 40 #[.val (.ref a1), .val (.double (own_U uu)), .second, .val (.int (0 : Int32)), .val (.double (own_D (0 + m0))), .second, .val (.int (0 : Int32))] [(.int (cmpValue (FP.dcmp (own_U uu) (own_D (0 + m0))) .g))])) _
        refine XS.ifYes X0.here hx rfl (pc0 := 40) (pc' := 46) rfl (hb hby d1_40) rfl ((if0 _ _).trans (flt (fun q => hc40 ((own_lt uu (0 + m0) hu (by omega)).mp q))).2.1) (by decide) (by decide) ?_
        show Steps p.tables e below (s₁.setTop (mkF m 46 #[.val (.ref a1), .val (.double (own_U uu)), .second, .val (.int (0 : Int32)), .val (.double (own_D (0 + m0))), .second, .val (.int (0 : Int32))] [])) _
        refine XS.iinc X0.here hx rfl (hb hby d1_46) rfl (l' := #[.val (.ref a1), .val (.double (own_U uu)), .second, .val (.int (0 : Int32)), .val (.double (own_D (0 + m0))), .second, .val (.int (1 : Int32))]) rfl ?_
        show Steps p.tables e below (s₁.setTop (mkF m 49 #[.val (.ref a1), .val (.double (own_U uu)), .second, .val (.int (0 : Int32)), .val (.double (own_D (0 + m0))), .second, .val (.int (1 : Int32))] [])) _
        refine XS.goto X0.here hx rfl (pc0 := 49) (pc' := 8) rfl (hb hby d1_49) (by decide) (by decide) ?_
        show Steps p.tables e below (s₁.setTop (mkF m 8 #[.val (.ref a1), .val (.double (own_U uu)), .second, .val (.int (0 : Int32)), .val (.double (own_D (0 + m0))), .second, .val (.int (1 : Int32))] [])) _
        refine XS.iload X0.here hx rfl (hb hby d1_8) rfl ?_
        show Steps p.tables e below (s₁.setTop (mkF m 10 #[.val (.ref a1), .val (.double (own_U uu)), .second, .val (.int (0 : Int32)), .val (.double (own_D (0 + m0))), .second, .val (.int (1 : Int32))] [(.int (1 : Int32))])) _
        refine XS.aloadN X0.here hx rfl (hb hby d1_10) rfl rfl ?_
        show Steps p.tables e below (s₁.setTop (mkF m 11 #[.val (.ref a1), .val (.double (own_U uu)), .second, .val (.int (0 : Int32)), .val (.double (own_D (0 + m0))), .second, .val (.int (1 : Int32))] [(.ref a1), (.int (1 : Int32))])) _
        refine X0.arraylength hx (by first | exact Ar11_6.1 | (rw [e0]; exact Ar11_6.1)) (State.isArrayOf_alike hZ.alike Ar11_6.2.1) (g := (mkF m 11 #[.val (.ref a1), .val (.double (own_U uu)), .second, .val (.int (0 : Int32)), .val (.double (own_D (0 + m0))), .second, .val (.int (1 : Int32))] [(.ref a1), (.int (1 : Int32))])) rfl rfl (hb hby d1_11) _ ?_
        rw [len_of Sa11_6 Na11_6]
        show Steps p.tables e below (s₁.setTop (mkF m 12 #[.val (.ref a1), .val (.double (own_U uu)), .second, .val (.int (0 : Int32)), .val (.double (own_D (0 + m0))), .second, .val (.int (1 : Int32))] [(.int (4 : Int32)), (.int (1 : Int32))])) _
        refine XS.icmpNo X0.here hx rfl (hb hby d1_12) rfl (tlt (by decide)).2.1 ?_
        show Steps p.tables e below (s₁.setTop (mkF m 15 #[.val (.ref a1), .val (.double (own_U uu)), .second, .val (.int (0 : Int32)), .val (.double (own_D (0 + m0))), .second, .val (.int (1 : Int32))] [])) _
        refine XS.aloadN X0.here hx rfl (hb hby d1_15) rfl rfl ?_
        show Steps p.tables e below (s₁.setTop (mkF m 16 #[.val (.ref a1), .val (.double (own_U uu)), .second, .val (.int (0 : Int32)), .val (.double (own_D (0 + m0))), .second, .val (.int (1 : Int32))] [(.ref a1)])) _
        refine XS.iload X0.here hx rfl (hb hby d1_16) rfl ?_
        show Steps p.tables e below (s₁.setTop (mkF m 18 #[.val (.ref a1), .val (.double (own_U uu)), .second, .val (.int (0 : Int32)), .val (.double (own_D (0 + m0))), .second, .val (.int (1 : Int32))] [(.int (1 : Int32)), (.ref a1)])) _
        refine X0.daload hx (j := (1 : Int32)) (v := (.double (own_D m1))) (by first | exact Ar18_7.1 | (rw [e0]; exact Ar18_7.1)) (State.isArrayOf_alike hZ.alike Ar18_7.2.1) Ar18_7.2.2 hin18_7 hat18_7 (g := (mkF m 18 #[.val (.ref a1), .val (.double (own_U uu)), .second, .val (.int (0 : Int32)), .val (.double (own_D (0 + m0))), .second, .val (.int (1 : Int32))] [(.int (1 : Int32)), (.ref a1)])) rfl rfl (hb hby d1_18) _ ?_
        show Steps p.tables e below (s₁.setTop (mkF m 19 #[.val (.ref a1), .val (.double (own_U uu)), .second, .val (.int (0 : Int32)), .val (.double (own_D (0 + m0))), .second, .val (.int (1 : Int32))] [(.double (own_D m1))])) _
        refine XS.dconst0 X0.here hx rfl (v := (own_D 0)) (hb hby d1_19) own_D0 ?_
        show Steps p.tables e below (s₁.setTop (mkF m 20 #[.val (.ref a1), .val (.double (own_U uu)), .second, .val (.int (0 : Int32)), .val (.double (own_D (0 + m0))), .second, .val (.int (1 : Int32))] [(.double (own_D 0)), (.double (own_D m1))])) _
        refine XS.dcmpS X0.here hx rfl (hb hby d1_20) rfl rfl ?_
        exact kt
      by_cases hc21_2 : 0 < m1
      · have cp32_9 := V0
        obtain ⟨cl32_9, Ar32_9, -, Sa32_9, Na32_9, Ha32_9, -⟩ := cp32_9
        have hin32_9 : ¬ ((1 : Int32) < 0 ∨ cl32_9.slots.size ≤ ((1 : Int32)).toNatClampNeg) := inb_of Sa32_9 ⟨by decide, by decide⟩
        have hat32_9 : cl32_9.slots[((1 : Int32)).toNatClampNeg]? = some (.double (own_D m1)) := Ha32_9.at hin32_9 rfl
        have c10 : ∀ t, Steps p.tables e below (s₁.setTop (mkF m 40 #[.val (.ref a1), .val (.double (own_U uu)), .second, .val (.int (1 : Int32)), .val (.double (own_D ((0 + m0) + m1))), .second, .val (.int (1 : Int32))] [(.int (cmpValue (FP.dcmp (own_U uu) (own_D ((0 + m0) + m1))) .g))])) t → Steps p.tables e below (s₁.setTop (entryFrame m #[(.ref a1), (.double (own_U uu))] 7)) t := fun t kt => by
          refine c8 _ ?_
          show Steps p.tables e below (s₁.setTop (mkF m 21 #[.val (.ref a1), .val (.double (own_U uu)), .second, .val (.int (0 : Int32)), .val (.double (own_D (0 + m0))), .second, .val (.int (1 : Int32))] [(.int (cmpValue (FP.dcmp (own_D m1) (own_D 0)) .l))])) _
          refine XS.ifNo X0.here hx rfl (hb hby d1_21) rfl ((if0 _ _).trans (tlt ((own_gt m1 (by omega)).mpr hc21_2)).2.2.2) ?_
          show Steps p.tables e below (s₁.setTop (mkF m 24 #[.val (.ref a1), .val (.double (own_U uu)), .second, .val (.int (0 : Int32)), .val (.double (own_D (0 + m0))), .second, .val (.int (1 : Int32))] [])) _
          refine XS.iload X0.here hx rfl (hb hby d1_24) rfl ?_
          show Steps p.tables e below (s₁.setTop (mkF m 26 #[.val (.ref a1), .val (.double (own_U uu)), .second, .val (.int (0 : Int32)), .val (.double (own_D (0 + m0))), .second, .val (.int (1 : Int32))] [(.int (1 : Int32))])) _
          refine XS.istoreN X0.here hx rfl (hb hby d1_26) rfl (l' := #[.val (.ref a1), .val (.double (own_U uu)), .second, .val (.int (1 : Int32)), .val (.double (own_D (0 + m0))), .second, .val (.int (1 : Int32))]) rfl ?_
          show Steps p.tables e below (s₁.setTop (mkF m 27 #[.val (.ref a1), .val (.double (own_U uu)), .second, .val (.int (1 : Int32)), .val (.double (own_D (0 + m0))), .second, .val (.int (1 : Int32))] [])) _
          refine XS.dload X0.here hx rfl (hb hby d1_27) rfl ?_
          show Steps p.tables e below (s₁.setTop (mkF m 29 #[.val (.ref a1), .val (.double (own_U uu)), .second, .val (.int (1 : Int32)), .val (.double (own_D (0 + m0))), .second, .val (.int (1 : Int32))] [(.double (own_D (0 + m0)))])) _
          refine XS.aloadN X0.here hx rfl (hb hby d1_29) rfl rfl ?_
          show Steps p.tables e below (s₁.setTop (mkF m 30 #[.val (.ref a1), .val (.double (own_U uu)), .second, .val (.int (1 : Int32)), .val (.double (own_D (0 + m0))), .second, .val (.int (1 : Int32))] [(.ref a1), (.double (own_D (0 + m0)))])) _
          refine XS.iload X0.here hx rfl (hb hby d1_30) rfl ?_
          show Steps p.tables e below (s₁.setTop (mkF m 32 #[.val (.ref a1), .val (.double (own_U uu)), .second, .val (.int (1 : Int32)), .val (.double (own_D (0 + m0))), .second, .val (.int (1 : Int32))] [(.int (1 : Int32)), (.ref a1), (.double (own_D (0 + m0)))])) _
          refine X0.daload hx (j := (1 : Int32)) (v := (.double (own_D m1))) (by first | exact Ar32_9.1 | (rw [e0]; exact Ar32_9.1)) (State.isArrayOf_alike hZ.alike Ar32_9.2.1) Ar32_9.2.2 hin32_9 hat32_9 (g := (mkF m 32 #[.val (.ref a1), .val (.double (own_U uu)), .second, .val (.int (1 : Int32)), .val (.double (own_D (0 + m0))), .second, .val (.int (1 : Int32))] [(.int (1 : Int32)), (.ref a1), (.double (own_D (0 + m0)))])) rfl rfl (hb hby d1_32) _ ?_
          show Steps p.tables e below (s₁.setTop (mkF m 33 #[.val (.ref a1), .val (.double (own_U uu)), .second, .val (.int (1 : Int32)), .val (.double (own_D (0 + m0))), .second, .val (.int (1 : Int32))] [(.double (own_D m1)), (.double (own_D (0 + m0)))])) _
          refine XS.daddS X0.here hx rfl (hb hby d1_33) rfl (v := (own_D ((0 + m0) + m1))) (own_nan2 _ _ (by omega)) (own_add _ _ (by omega)) ?_
          show Steps p.tables e below (s₁.setTop (mkF m 34 #[.val (.ref a1), .val (.double (own_U uu)), .second, .val (.int (1 : Int32)), .val (.double (own_D (0 + m0))), .second, .val (.int (1 : Int32))] [(.double (own_D ((0 + m0) + m1)))])) _
          refine XS.dstore X0.here hx rfl (hb hby d1_34) rfl (l' := #[.val (.ref a1), .val (.double (own_U uu)), .second, .val (.int (1 : Int32)), .val (.double (own_D ((0 + m0) + m1))), .second, .val (.int (1 : Int32))]) rfl ?_
          show Steps p.tables e below (s₁.setTop (mkF m 36 #[.val (.ref a1), .val (.double (own_U uu)), .second, .val (.int (1 : Int32)), .val (.double (own_D ((0 + m0) + m1))), .second, .val (.int (1 : Int32))] [])) _
          refine XS.dloadN X0.here hx rfl (hb hby d1_36) rfl ?_
          show Steps p.tables e below (s₁.setTop (mkF m 37 #[.val (.ref a1), .val (.double (own_U uu)), .second, .val (.int (1 : Int32)), .val (.double (own_D ((0 + m0) + m1))), .second, .val (.int (1 : Int32))] [(.double (own_U uu))])) _
          refine XS.dload X0.here hx rfl (hb hby d1_37) rfl ?_
          show Steps p.tables e below (s₁.setTop (mkF m 39 #[.val (.ref a1), .val (.double (own_U uu)), .second, .val (.int (1 : Int32)), .val (.double (own_D ((0 + m0) + m1))), .second, .val (.int (1 : Int32))] [(.double (own_D ((0 + m0) + m1))), (.double (own_U uu))])) _
          refine XS.dcmpS X0.here hx rfl (hb hby d1_39) rfl rfl ?_
          exact kt
        by_cases hc40_2 : uu < 16 * ((0 + m0) + m1)
        · obtain ⟨fs, hr, hrun, hended, hW, hsame⟩ := X0.leave (v := some (.int (1 : Int32))) (fun h => by rw [Bd.returns] at h; cases h)
          refine ⟨_, _, c10 _ ?_, hrun, hended, _, _, rfl, ?_, ⟨_, rfl⟩, hW, hsame.mono (by decide) (by decide)⟩
          · show Steps p.tables e below (s₁.setTop (mkF m 40 #[.val (.ref a1), .val (.double (own_U uu)), .second, .val (.int (1 : Int32)), .val (.double (own_D ((0 + m0) + m1))), .second, .val (.int (1 : Int32))] [(.int (cmpValue (FP.dcmp (own_U uu) (own_D ((0 + m0) + m1))) .g))])) _
            refine XS.ifNo X0.here hx rfl (hb hby d1_40) rfl ((if0 _ _).trans (tlt ((own_lt uu ((0 + m0) + m1) hu (by omega)).mpr hc40_2)).2.1) ?_
            show Steps p.tables e below (s₁.setTop (mkF m 43 #[.val (.ref a1), .val (.double (own_U uu)), .second, .val (.int (1 : Int32)), .val (.double (own_D ((0 + m0) + m1))), .second, .val (.int (1 : Int32))] [])) _
            refine XS.goto X0.here hx rfl (pc0 := 43) (pc' := 52) rfl (hb hby d1_43) (by decide) (by decide) ?_
            show Steps p.tables e below (s₁.setTop (mkF m 52 #[.val (.ref a1), .val (.double (own_U uu)), .second, .val (.int (1 : Int32)), .val (.double (own_D ((0 + m0) + m1))), .second, .val (.int (1 : Int32))] [])) _
            refine XS.iloadN X0.here hx rfl (hb hby d1_52) rfl ?_
            show Steps p.tables e below (s₁.setTop (mkF m 53 #[.val (.ref a1), .val (.double (own_U uu)), .second, .val (.int (1 : Int32)), .val (.double (own_D ((0 + m0) + m1))), .second, .val (.int (1 : Int32))] [(.int (1 : Int32))])) _
            refine XS.ifYes X0.here hx rfl (pc0 := 53) (pc' := 66) rfl (hb hby d1_53) rfl ((if0 _ _).trans (flt (by decide)).2.1) (by decide) (by decide) ?_
            show Steps p.tables e below (s₁.setTop (mkF m 66 #[.val (.ref a1), .val (.double (own_U uu)), .second, .val (.int (1 : Int32)), .val (.double (own_D ((0 + m0) + m1))), .second, .val (.int (1 : Int32))] [])) _
            refine XS.iloadN X0.here hx rfl (hb hby d1_66) rfl ?_
            show Steps p.tables e below (s₁.setTop (mkF m 67 #[.val (.ref a1), .val (.double (own_U uu)), .second, .val (.int (1 : Int32)), .val (.double (own_D ((0 + m0) + m1))), .second, .val (.int (1 : Int32))] [(.int (1 : Int32))])) _
            exact retI X0 hx Bd.returns (hb hby d1_67) hr
          · show Q1 Z a1 kk m0 m1 m2 m3 uu h0 n0 _ s₁.heap _
            rw [e0]
            have hv : (own_draw m0 m1 m2 m3 uu) = (1 : Int32) := by unfold own_draw; rw [if_pos hc21, if_neg hc40, if_pos hc21_2, if_pos hc40_2]
            exact ⟨by rw [hv], N0, rfl⟩
        · have cp11_11 := V0
          obtain ⟨cl11_11, Ar11_11, -, Sa11_11, Na11_11, -, -⟩ := cp11_11
          have cp18_12 := V0
          obtain ⟨cl18_12, Ar18_12, -, Sa18_12, Na18_12, Ha18_12, -⟩ := cp18_12
          have hin18_12 : ¬ ((2 : Int32) < 0 ∨ cl18_12.slots.size ≤ ((2 : Int32)).toNatClampNeg) := inb_of Sa18_12 ⟨by decide, by decide⟩
          have hat18_12 : cl18_12.slots[((2 : Int32)).toNatClampNeg]? = some (.double (own_D m2)) := Ha18_12.at hin18_12 rfl
          have c13 : ∀ t, Steps p.tables e below (s₁.setTop (mkF m 21 #[.val (.ref a1), .val (.double (own_U uu)), .second, .val (.int (1 : Int32)), .val (.double (own_D ((0 + m0) + m1))), .second, .val (.int (2 : Int32))] [(.int (cmpValue (FP.dcmp (own_D m2) (own_D 0)) .l))])) t → Steps p.tables e below (s₁.setTop (entryFrame m #[(.ref a1), (.double (own_U uu))] 7)) t := fun t kt => by
            refine c10 _ ?_
            show Steps p.tables e below (s₁.setTop (mkF m 40 #[.val (.ref a1), .val (.double (own_U uu)), .second, .val (.int (1 : Int32)), .val (.double (own_D ((0 + m0) + m1))), .second, .val (.int (1 : Int32))] [(.int (cmpValue (FP.dcmp (own_U uu) (own_D ((0 + m0) + m1))) .g))])) _
            refine XS.ifYes X0.here hx rfl (pc0 := 40) (pc' := 46) rfl (hb hby d1_40) rfl ((if0 _ _).trans (flt (fun q => hc40_2 ((own_lt uu ((0 + m0) + m1) hu (by omega)).mp q))).2.1) (by decide) (by decide) ?_
            show Steps p.tables e below (s₁.setTop (mkF m 46 #[.val (.ref a1), .val (.double (own_U uu)), .second, .val (.int (1 : Int32)), .val (.double (own_D ((0 + m0) + m1))), .second, .val (.int (1 : Int32))] [])) _
            refine XS.iinc X0.here hx rfl (hb hby d1_46) rfl (l' := #[.val (.ref a1), .val (.double (own_U uu)), .second, .val (.int (1 : Int32)), .val (.double (own_D ((0 + m0) + m1))), .second, .val (.int (2 : Int32))]) rfl ?_
            show Steps p.tables e below (s₁.setTop (mkF m 49 #[.val (.ref a1), .val (.double (own_U uu)), .second, .val (.int (1 : Int32)), .val (.double (own_D ((0 + m0) + m1))), .second, .val (.int (2 : Int32))] [])) _
            refine XS.goto X0.here hx rfl (pc0 := 49) (pc' := 8) rfl (hb hby d1_49) (by decide) (by decide) ?_
            show Steps p.tables e below (s₁.setTop (mkF m 8 #[.val (.ref a1), .val (.double (own_U uu)), .second, .val (.int (1 : Int32)), .val (.double (own_D ((0 + m0) + m1))), .second, .val (.int (2 : Int32))] [])) _
            refine XS.iload X0.here hx rfl (hb hby d1_8) rfl ?_
            show Steps p.tables e below (s₁.setTop (mkF m 10 #[.val (.ref a1), .val (.double (own_U uu)), .second, .val (.int (1 : Int32)), .val (.double (own_D ((0 + m0) + m1))), .second, .val (.int (2 : Int32))] [(.int (2 : Int32))])) _
            refine XS.aloadN X0.here hx rfl (hb hby d1_10) rfl rfl ?_
            show Steps p.tables e below (s₁.setTop (mkF m 11 #[.val (.ref a1), .val (.double (own_U uu)), .second, .val (.int (1 : Int32)), .val (.double (own_D ((0 + m0) + m1))), .second, .val (.int (2 : Int32))] [(.ref a1), (.int (2 : Int32))])) _
            refine X0.arraylength hx (by first | exact Ar11_11.1 | (rw [e0]; exact Ar11_11.1)) (State.isArrayOf_alike hZ.alike Ar11_11.2.1) (g := (mkF m 11 #[.val (.ref a1), .val (.double (own_U uu)), .second, .val (.int (1 : Int32)), .val (.double (own_D ((0 + m0) + m1))), .second, .val (.int (2 : Int32))] [(.ref a1), (.int (2 : Int32))])) rfl rfl (hb hby d1_11) _ ?_
            rw [len_of Sa11_11 Na11_11]
            show Steps p.tables e below (s₁.setTop (mkF m 12 #[.val (.ref a1), .val (.double (own_U uu)), .second, .val (.int (1 : Int32)), .val (.double (own_D ((0 + m0) + m1))), .second, .val (.int (2 : Int32))] [(.int (4 : Int32)), (.int (2 : Int32))])) _
            refine XS.icmpNo X0.here hx rfl (hb hby d1_12) rfl (tlt (by decide)).2.1 ?_
            show Steps p.tables e below (s₁.setTop (mkF m 15 #[.val (.ref a1), .val (.double (own_U uu)), .second, .val (.int (1 : Int32)), .val (.double (own_D ((0 + m0) + m1))), .second, .val (.int (2 : Int32))] [])) _
            refine XS.aloadN X0.here hx rfl (hb hby d1_15) rfl rfl ?_
            show Steps p.tables e below (s₁.setTop (mkF m 16 #[.val (.ref a1), .val (.double (own_U uu)), .second, .val (.int (1 : Int32)), .val (.double (own_D ((0 + m0) + m1))), .second, .val (.int (2 : Int32))] [(.ref a1)])) _
            refine XS.iload X0.here hx rfl (hb hby d1_16) rfl ?_
            show Steps p.tables e below (s₁.setTop (mkF m 18 #[.val (.ref a1), .val (.double (own_U uu)), .second, .val (.int (1 : Int32)), .val (.double (own_D ((0 + m0) + m1))), .second, .val (.int (2 : Int32))] [(.int (2 : Int32)), (.ref a1)])) _
            refine X0.daload hx (j := (2 : Int32)) (v := (.double (own_D m2))) (by first | exact Ar18_12.1 | (rw [e0]; exact Ar18_12.1)) (State.isArrayOf_alike hZ.alike Ar18_12.2.1) Ar18_12.2.2 hin18_12 hat18_12 (g := (mkF m 18 #[.val (.ref a1), .val (.double (own_U uu)), .second, .val (.int (1 : Int32)), .val (.double (own_D ((0 + m0) + m1))), .second, .val (.int (2 : Int32))] [(.int (2 : Int32)), (.ref a1)])) rfl rfl (hb hby d1_18) _ ?_
            show Steps p.tables e below (s₁.setTop (mkF m 19 #[.val (.ref a1), .val (.double (own_U uu)), .second, .val (.int (1 : Int32)), .val (.double (own_D ((0 + m0) + m1))), .second, .val (.int (2 : Int32))] [(.double (own_D m2))])) _
            refine XS.dconst0 X0.here hx rfl (v := (own_D 0)) (hb hby d1_19) own_D0 ?_
            show Steps p.tables e below (s₁.setTop (mkF m 20 #[.val (.ref a1), .val (.double (own_U uu)), .second, .val (.int (1 : Int32)), .val (.double (own_D ((0 + m0) + m1))), .second, .val (.int (2 : Int32))] [(.double (own_D 0)), (.double (own_D m2))])) _
            refine XS.dcmpS X0.here hx rfl (hb hby d1_20) rfl rfl ?_
            exact kt
          by_cases hc21_3 : 0 < m2
          · have cp32_14 := V0
            obtain ⟨cl32_14, Ar32_14, -, Sa32_14, Na32_14, Ha32_14, -⟩ := cp32_14
            have hin32_14 : ¬ ((2 : Int32) < 0 ∨ cl32_14.slots.size ≤ ((2 : Int32)).toNatClampNeg) := inb_of Sa32_14 ⟨by decide, by decide⟩
            have hat32_14 : cl32_14.slots[((2 : Int32)).toNatClampNeg]? = some (.double (own_D m2)) := Ha32_14.at hin32_14 rfl
            have c15 : ∀ t, Steps p.tables e below (s₁.setTop (mkF m 40 #[.val (.ref a1), .val (.double (own_U uu)), .second, .val (.int (2 : Int32)), .val (.double (own_D (((0 + m0) + m1) + m2))), .second, .val (.int (2 : Int32))] [(.int (cmpValue (FP.dcmp (own_U uu) (own_D (((0 + m0) + m1) + m2))) .g))])) t → Steps p.tables e below (s₁.setTop (entryFrame m #[(.ref a1), (.double (own_U uu))] 7)) t := fun t kt => by
              refine c13 _ ?_
              show Steps p.tables e below (s₁.setTop (mkF m 21 #[.val (.ref a1), .val (.double (own_U uu)), .second, .val (.int (1 : Int32)), .val (.double (own_D ((0 + m0) + m1))), .second, .val (.int (2 : Int32))] [(.int (cmpValue (FP.dcmp (own_D m2) (own_D 0)) .l))])) _
              refine XS.ifNo X0.here hx rfl (hb hby d1_21) rfl ((if0 _ _).trans (tlt ((own_gt m2 (by omega)).mpr hc21_3)).2.2.2) ?_
              show Steps p.tables e below (s₁.setTop (mkF m 24 #[.val (.ref a1), .val (.double (own_U uu)), .second, .val (.int (1 : Int32)), .val (.double (own_D ((0 + m0) + m1))), .second, .val (.int (2 : Int32))] [])) _
              refine XS.iload X0.here hx rfl (hb hby d1_24) rfl ?_
              show Steps p.tables e below (s₁.setTop (mkF m 26 #[.val (.ref a1), .val (.double (own_U uu)), .second, .val (.int (1 : Int32)), .val (.double (own_D ((0 + m0) + m1))), .second, .val (.int (2 : Int32))] [(.int (2 : Int32))])) _
              refine XS.istoreN X0.here hx rfl (hb hby d1_26) rfl (l' := #[.val (.ref a1), .val (.double (own_U uu)), .second, .val (.int (2 : Int32)), .val (.double (own_D ((0 + m0) + m1))), .second, .val (.int (2 : Int32))]) rfl ?_
              show Steps p.tables e below (s₁.setTop (mkF m 27 #[.val (.ref a1), .val (.double (own_U uu)), .second, .val (.int (2 : Int32)), .val (.double (own_D ((0 + m0) + m1))), .second, .val (.int (2 : Int32))] [])) _
              refine XS.dload X0.here hx rfl (hb hby d1_27) rfl ?_
              show Steps p.tables e below (s₁.setTop (mkF m 29 #[.val (.ref a1), .val (.double (own_U uu)), .second, .val (.int (2 : Int32)), .val (.double (own_D ((0 + m0) + m1))), .second, .val (.int (2 : Int32))] [(.double (own_D ((0 + m0) + m1)))])) _
              refine XS.aloadN X0.here hx rfl (hb hby d1_29) rfl rfl ?_
              show Steps p.tables e below (s₁.setTop (mkF m 30 #[.val (.ref a1), .val (.double (own_U uu)), .second, .val (.int (2 : Int32)), .val (.double (own_D ((0 + m0) + m1))), .second, .val (.int (2 : Int32))] [(.ref a1), (.double (own_D ((0 + m0) + m1)))])) _
              refine XS.iload X0.here hx rfl (hb hby d1_30) rfl ?_
              show Steps p.tables e below (s₁.setTop (mkF m 32 #[.val (.ref a1), .val (.double (own_U uu)), .second, .val (.int (2 : Int32)), .val (.double (own_D ((0 + m0) + m1))), .second, .val (.int (2 : Int32))] [(.int (2 : Int32)), (.ref a1), (.double (own_D ((0 + m0) + m1)))])) _
              refine X0.daload hx (j := (2 : Int32)) (v := (.double (own_D m2))) (by first | exact Ar32_14.1 | (rw [e0]; exact Ar32_14.1)) (State.isArrayOf_alike hZ.alike Ar32_14.2.1) Ar32_14.2.2 hin32_14 hat32_14 (g := (mkF m 32 #[.val (.ref a1), .val (.double (own_U uu)), .second, .val (.int (2 : Int32)), .val (.double (own_D ((0 + m0) + m1))), .second, .val (.int (2 : Int32))] [(.int (2 : Int32)), (.ref a1), (.double (own_D ((0 + m0) + m1)))])) rfl rfl (hb hby d1_32) _ ?_
              show Steps p.tables e below (s₁.setTop (mkF m 33 #[.val (.ref a1), .val (.double (own_U uu)), .second, .val (.int (2 : Int32)), .val (.double (own_D ((0 + m0) + m1))), .second, .val (.int (2 : Int32))] [(.double (own_D m2)), (.double (own_D ((0 + m0) + m1)))])) _
              refine XS.daddS X0.here hx rfl (hb hby d1_33) rfl (v := (own_D (((0 + m0) + m1) + m2))) (own_nan2 _ _ (by omega)) (own_add _ _ (by omega)) ?_
              show Steps p.tables e below (s₁.setTop (mkF m 34 #[.val (.ref a1), .val (.double (own_U uu)), .second, .val (.int (2 : Int32)), .val (.double (own_D ((0 + m0) + m1))), .second, .val (.int (2 : Int32))] [(.double (own_D (((0 + m0) + m1) + m2)))])) _
              refine XS.dstore X0.here hx rfl (hb hby d1_34) rfl (l' := #[.val (.ref a1), .val (.double (own_U uu)), .second, .val (.int (2 : Int32)), .val (.double (own_D (((0 + m0) + m1) + m2))), .second, .val (.int (2 : Int32))]) rfl ?_
              show Steps p.tables e below (s₁.setTop (mkF m 36 #[.val (.ref a1), .val (.double (own_U uu)), .second, .val (.int (2 : Int32)), .val (.double (own_D (((0 + m0) + m1) + m2))), .second, .val (.int (2 : Int32))] [])) _
              refine XS.dloadN X0.here hx rfl (hb hby d1_36) rfl ?_
              show Steps p.tables e below (s₁.setTop (mkF m 37 #[.val (.ref a1), .val (.double (own_U uu)), .second, .val (.int (2 : Int32)), .val (.double (own_D (((0 + m0) + m1) + m2))), .second, .val (.int (2 : Int32))] [(.double (own_U uu))])) _
              refine XS.dload X0.here hx rfl (hb hby d1_37) rfl ?_
              show Steps p.tables e below (s₁.setTop (mkF m 39 #[.val (.ref a1), .val (.double (own_U uu)), .second, .val (.int (2 : Int32)), .val (.double (own_D (((0 + m0) + m1) + m2))), .second, .val (.int (2 : Int32))] [(.double (own_D (((0 + m0) + m1) + m2))), (.double (own_U uu))])) _
              refine XS.dcmpS X0.here hx rfl (hb hby d1_39) rfl rfl ?_
              exact kt
            by_cases hc40_3 : uu < 16 * (((0 + m0) + m1) + m2)
            · obtain ⟨fs, hr, hrun, hended, hW, hsame⟩ := X0.leave (v := some (.int (2 : Int32))) (fun h => by rw [Bd.returns] at h; cases h)
              refine ⟨_, _, c15 _ ?_, hrun, hended, _, _, rfl, ?_, ⟨_, rfl⟩, hW, hsame.mono (by decide) (by decide)⟩
              · show Steps p.tables e below (s₁.setTop (mkF m 40 #[.val (.ref a1), .val (.double (own_U uu)), .second, .val (.int (2 : Int32)), .val (.double (own_D (((0 + m0) + m1) + m2))), .second, .val (.int (2 : Int32))] [(.int (cmpValue (FP.dcmp (own_U uu) (own_D (((0 + m0) + m1) + m2))) .g))])) _
                refine XS.ifNo X0.here hx rfl (hb hby d1_40) rfl ((if0 _ _).trans (tlt ((own_lt uu (((0 + m0) + m1) + m2) hu (by omega)).mpr hc40_3)).2.1) ?_
                show Steps p.tables e below (s₁.setTop (mkF m 43 #[.val (.ref a1), .val (.double (own_U uu)), .second, .val (.int (2 : Int32)), .val (.double (own_D (((0 + m0) + m1) + m2))), .second, .val (.int (2 : Int32))] [])) _
                refine XS.goto X0.here hx rfl (pc0 := 43) (pc' := 52) rfl (hb hby d1_43) (by decide) (by decide) ?_
                show Steps p.tables e below (s₁.setTop (mkF m 52 #[.val (.ref a1), .val (.double (own_U uu)), .second, .val (.int (2 : Int32)), .val (.double (own_D (((0 + m0) + m1) + m2))), .second, .val (.int (2 : Int32))] [])) _
                refine XS.iloadN X0.here hx rfl (hb hby d1_52) rfl ?_
                show Steps p.tables e below (s₁.setTop (mkF m 53 #[.val (.ref a1), .val (.double (own_U uu)), .second, .val (.int (2 : Int32)), .val (.double (own_D (((0 + m0) + m1) + m2))), .second, .val (.int (2 : Int32))] [(.int (2 : Int32))])) _
                refine XS.ifYes X0.here hx rfl (pc0 := 53) (pc' := 66) rfl (hb hby d1_53) rfl ((if0 _ _).trans (flt (by decide)).2.1) (by decide) (by decide) ?_
                show Steps p.tables e below (s₁.setTop (mkF m 66 #[.val (.ref a1), .val (.double (own_U uu)), .second, .val (.int (2 : Int32)), .val (.double (own_D (((0 + m0) + m1) + m2))), .second, .val (.int (2 : Int32))] [])) _
                refine XS.iloadN X0.here hx rfl (hb hby d1_66) rfl ?_
                show Steps p.tables e below (s₁.setTop (mkF m 67 #[.val (.ref a1), .val (.double (own_U uu)), .second, .val (.int (2 : Int32)), .val (.double (own_D (((0 + m0) + m1) + m2))), .second, .val (.int (2 : Int32))] [(.int (2 : Int32))])) _
                exact retI X0 hx Bd.returns (hb hby d1_67) hr
              · show Q1 Z a1 kk m0 m1 m2 m3 uu h0 n0 _ s₁.heap _
                rw [e0]
                have hv : (own_draw m0 m1 m2 m3 uu) = (2 : Int32) := by unfold own_draw; rw [if_pos hc21, if_neg hc40, if_pos hc21_2, if_neg hc40_2, if_pos hc21_3, if_pos hc40_3]
                exact ⟨by rw [hv], N0, rfl⟩
            · have cp11_16 := V0
              obtain ⟨cl11_16, Ar11_16, -, Sa11_16, Na11_16, -, -⟩ := cp11_16
              have cp18_17 := V0
              obtain ⟨cl18_17, Ar18_17, -, Sa18_17, Na18_17, Ha18_17, -⟩ := cp18_17
              have hin18_17 : ¬ ((3 : Int32) < 0 ∨ cl18_17.slots.size ≤ ((3 : Int32)).toNatClampNeg) := inb_of Sa18_17 ⟨by decide, by decide⟩
              have hat18_17 : cl18_17.slots[((3 : Int32)).toNatClampNeg]? = some (.double (own_D m3)) := Ha18_17.at hin18_17 rfl
              have c18 : ∀ t, Steps p.tables e below (s₁.setTop (mkF m 21 #[.val (.ref a1), .val (.double (own_U uu)), .second, .val (.int (2 : Int32)), .val (.double (own_D (((0 + m0) + m1) + m2))), .second, .val (.int (3 : Int32))] [(.int (cmpValue (FP.dcmp (own_D m3) (own_D 0)) .l))])) t → Steps p.tables e below (s₁.setTop (entryFrame m #[(.ref a1), (.double (own_U uu))] 7)) t := fun t kt => by
                refine c15 _ ?_
                show Steps p.tables e below (s₁.setTop (mkF m 40 #[.val (.ref a1), .val (.double (own_U uu)), .second, .val (.int (2 : Int32)), .val (.double (own_D (((0 + m0) + m1) + m2))), .second, .val (.int (2 : Int32))] [(.int (cmpValue (FP.dcmp (own_U uu) (own_D (((0 + m0) + m1) + m2))) .g))])) _
                refine XS.ifYes X0.here hx rfl (pc0 := 40) (pc' := 46) rfl (hb hby d1_40) rfl ((if0 _ _).trans (flt (fun q => hc40_3 ((own_lt uu (((0 + m0) + m1) + m2) hu (by omega)).mp q))).2.1) (by decide) (by decide) ?_
                show Steps p.tables e below (s₁.setTop (mkF m 46 #[.val (.ref a1), .val (.double (own_U uu)), .second, .val (.int (2 : Int32)), .val (.double (own_D (((0 + m0) + m1) + m2))), .second, .val (.int (2 : Int32))] [])) _
                refine XS.iinc X0.here hx rfl (hb hby d1_46) rfl (l' := #[.val (.ref a1), .val (.double (own_U uu)), .second, .val (.int (2 : Int32)), .val (.double (own_D (((0 + m0) + m1) + m2))), .second, .val (.int (3 : Int32))]) rfl ?_
                show Steps p.tables e below (s₁.setTop (mkF m 49 #[.val (.ref a1), .val (.double (own_U uu)), .second, .val (.int (2 : Int32)), .val (.double (own_D (((0 + m0) + m1) + m2))), .second, .val (.int (3 : Int32))] [])) _
                refine XS.goto X0.here hx rfl (pc0 := 49) (pc' := 8) rfl (hb hby d1_49) (by decide) (by decide) ?_
                show Steps p.tables e below (s₁.setTop (mkF m 8 #[.val (.ref a1), .val (.double (own_U uu)), .second, .val (.int (2 : Int32)), .val (.double (own_D (((0 + m0) + m1) + m2))), .second, .val (.int (3 : Int32))] [])) _
                refine XS.iload X0.here hx rfl (hb hby d1_8) rfl ?_
                show Steps p.tables e below (s₁.setTop (mkF m 10 #[.val (.ref a1), .val (.double (own_U uu)), .second, .val (.int (2 : Int32)), .val (.double (own_D (((0 + m0) + m1) + m2))), .second, .val (.int (3 : Int32))] [(.int (3 : Int32))])) _
                refine XS.aloadN X0.here hx rfl (hb hby d1_10) rfl rfl ?_
                show Steps p.tables e below (s₁.setTop (mkF m 11 #[.val (.ref a1), .val (.double (own_U uu)), .second, .val (.int (2 : Int32)), .val (.double (own_D (((0 + m0) + m1) + m2))), .second, .val (.int (3 : Int32))] [(.ref a1), (.int (3 : Int32))])) _
                refine X0.arraylength hx (by first | exact Ar11_16.1 | (rw [e0]; exact Ar11_16.1)) (State.isArrayOf_alike hZ.alike Ar11_16.2.1) (g := (mkF m 11 #[.val (.ref a1), .val (.double (own_U uu)), .second, .val (.int (2 : Int32)), .val (.double (own_D (((0 + m0) + m1) + m2))), .second, .val (.int (3 : Int32))] [(.ref a1), (.int (3 : Int32))])) rfl rfl (hb hby d1_11) _ ?_
                rw [len_of Sa11_16 Na11_16]
                show Steps p.tables e below (s₁.setTop (mkF m 12 #[.val (.ref a1), .val (.double (own_U uu)), .second, .val (.int (2 : Int32)), .val (.double (own_D (((0 + m0) + m1) + m2))), .second, .val (.int (3 : Int32))] [(.int (4 : Int32)), (.int (3 : Int32))])) _
                refine XS.icmpNo X0.here hx rfl (hb hby d1_12) rfl (tlt (by decide)).2.1 ?_
                show Steps p.tables e below (s₁.setTop (mkF m 15 #[.val (.ref a1), .val (.double (own_U uu)), .second, .val (.int (2 : Int32)), .val (.double (own_D (((0 + m0) + m1) + m2))), .second, .val (.int (3 : Int32))] [])) _
                refine XS.aloadN X0.here hx rfl (hb hby d1_15) rfl rfl ?_
                show Steps p.tables e below (s₁.setTop (mkF m 16 #[.val (.ref a1), .val (.double (own_U uu)), .second, .val (.int (2 : Int32)), .val (.double (own_D (((0 + m0) + m1) + m2))), .second, .val (.int (3 : Int32))] [(.ref a1)])) _
                refine XS.iload X0.here hx rfl (hb hby d1_16) rfl ?_
                show Steps p.tables e below (s₁.setTop (mkF m 18 #[.val (.ref a1), .val (.double (own_U uu)), .second, .val (.int (2 : Int32)), .val (.double (own_D (((0 + m0) + m1) + m2))), .second, .val (.int (3 : Int32))] [(.int (3 : Int32)), (.ref a1)])) _
                refine X0.daload hx (j := (3 : Int32)) (v := (.double (own_D m3))) (by first | exact Ar18_17.1 | (rw [e0]; exact Ar18_17.1)) (State.isArrayOf_alike hZ.alike Ar18_17.2.1) Ar18_17.2.2 hin18_17 hat18_17 (g := (mkF m 18 #[.val (.ref a1), .val (.double (own_U uu)), .second, .val (.int (2 : Int32)), .val (.double (own_D (((0 + m0) + m1) + m2))), .second, .val (.int (3 : Int32))] [(.int (3 : Int32)), (.ref a1)])) rfl rfl (hb hby d1_18) _ ?_
                show Steps p.tables e below (s₁.setTop (mkF m 19 #[.val (.ref a1), .val (.double (own_U uu)), .second, .val (.int (2 : Int32)), .val (.double (own_D (((0 + m0) + m1) + m2))), .second, .val (.int (3 : Int32))] [(.double (own_D m3))])) _
                refine XS.dconst0 X0.here hx rfl (v := (own_D 0)) (hb hby d1_19) own_D0 ?_
                show Steps p.tables e below (s₁.setTop (mkF m 20 #[.val (.ref a1), .val (.double (own_U uu)), .second, .val (.int (2 : Int32)), .val (.double (own_D (((0 + m0) + m1) + m2))), .second, .val (.int (3 : Int32))] [(.double (own_D 0)), (.double (own_D m3))])) _
                refine XS.dcmpS X0.here hx rfl (hb hby d1_20) rfl rfl ?_
                exact kt
              by_cases hc21_4 : 0 < m3
              · have cp32_19 := V0
                obtain ⟨cl32_19, Ar32_19, -, Sa32_19, Na32_19, Ha32_19, -⟩ := cp32_19
                have hin32_19 : ¬ ((3 : Int32) < 0 ∨ cl32_19.slots.size ≤ ((3 : Int32)).toNatClampNeg) := inb_of Sa32_19 ⟨by decide, by decide⟩
                have hat32_19 : cl32_19.slots[((3 : Int32)).toNatClampNeg]? = some (.double (own_D m3)) := Ha32_19.at hin32_19 rfl
                have c20 : ∀ t, Steps p.tables e below (s₁.setTop (mkF m 40 #[.val (.ref a1), .val (.double (own_U uu)), .second, .val (.int (3 : Int32)), .val (.double (own_D ((((0 + m0) + m1) + m2) + m3))), .second, .val (.int (3 : Int32))] [(.int (cmpValue (FP.dcmp (own_U uu) (own_D ((((0 + m0) + m1) + m2) + m3))) .g))])) t → Steps p.tables e below (s₁.setTop (entryFrame m #[(.ref a1), (.double (own_U uu))] 7)) t := fun t kt => by
                  refine c18 _ ?_
                  show Steps p.tables e below (s₁.setTop (mkF m 21 #[.val (.ref a1), .val (.double (own_U uu)), .second, .val (.int (2 : Int32)), .val (.double (own_D (((0 + m0) + m1) + m2))), .second, .val (.int (3 : Int32))] [(.int (cmpValue (FP.dcmp (own_D m3) (own_D 0)) .l))])) _
                  refine XS.ifNo X0.here hx rfl (hb hby d1_21) rfl ((if0 _ _).trans (tlt ((own_gt m3 (by omega)).mpr hc21_4)).2.2.2) ?_
                  show Steps p.tables e below (s₁.setTop (mkF m 24 #[.val (.ref a1), .val (.double (own_U uu)), .second, .val (.int (2 : Int32)), .val (.double (own_D (((0 + m0) + m1) + m2))), .second, .val (.int (3 : Int32))] [])) _
                  refine XS.iload X0.here hx rfl (hb hby d1_24) rfl ?_
                  show Steps p.tables e below (s₁.setTop (mkF m 26 #[.val (.ref a1), .val (.double (own_U uu)), .second, .val (.int (2 : Int32)), .val (.double (own_D (((0 + m0) + m1) + m2))), .second, .val (.int (3 : Int32))] [(.int (3 : Int32))])) _
                  refine XS.istoreN X0.here hx rfl (hb hby d1_26) rfl (l' := #[.val (.ref a1), .val (.double (own_U uu)), .second, .val (.int (3 : Int32)), .val (.double (own_D (((0 + m0) + m1) + m2))), .second, .val (.int (3 : Int32))]) rfl ?_
                  show Steps p.tables e below (s₁.setTop (mkF m 27 #[.val (.ref a1), .val (.double (own_U uu)), .second, .val (.int (3 : Int32)), .val (.double (own_D (((0 + m0) + m1) + m2))), .second, .val (.int (3 : Int32))] [])) _
                  refine XS.dload X0.here hx rfl (hb hby d1_27) rfl ?_
                  show Steps p.tables e below (s₁.setTop (mkF m 29 #[.val (.ref a1), .val (.double (own_U uu)), .second, .val (.int (3 : Int32)), .val (.double (own_D (((0 + m0) + m1) + m2))), .second, .val (.int (3 : Int32))] [(.double (own_D (((0 + m0) + m1) + m2)))])) _
                  refine XS.aloadN X0.here hx rfl (hb hby d1_29) rfl rfl ?_
                  show Steps p.tables e below (s₁.setTop (mkF m 30 #[.val (.ref a1), .val (.double (own_U uu)), .second, .val (.int (3 : Int32)), .val (.double (own_D (((0 + m0) + m1) + m2))), .second, .val (.int (3 : Int32))] [(.ref a1), (.double (own_D (((0 + m0) + m1) + m2)))])) _
                  refine XS.iload X0.here hx rfl (hb hby d1_30) rfl ?_
                  show Steps p.tables e below (s₁.setTop (mkF m 32 #[.val (.ref a1), .val (.double (own_U uu)), .second, .val (.int (3 : Int32)), .val (.double (own_D (((0 + m0) + m1) + m2))), .second, .val (.int (3 : Int32))] [(.int (3 : Int32)), (.ref a1), (.double (own_D (((0 + m0) + m1) + m2)))])) _
                  refine X0.daload hx (j := (3 : Int32)) (v := (.double (own_D m3))) (by first | exact Ar32_19.1 | (rw [e0]; exact Ar32_19.1)) (State.isArrayOf_alike hZ.alike Ar32_19.2.1) Ar32_19.2.2 hin32_19 hat32_19 (g := (mkF m 32 #[.val (.ref a1), .val (.double (own_U uu)), .second, .val (.int (3 : Int32)), .val (.double (own_D (((0 + m0) + m1) + m2))), .second, .val (.int (3 : Int32))] [(.int (3 : Int32)), (.ref a1), (.double (own_D (((0 + m0) + m1) + m2)))])) rfl rfl (hb hby d1_32) _ ?_
                  show Steps p.tables e below (s₁.setTop (mkF m 33 #[.val (.ref a1), .val (.double (own_U uu)), .second, .val (.int (3 : Int32)), .val (.double (own_D (((0 + m0) + m1) + m2))), .second, .val (.int (3 : Int32))] [(.double (own_D m3)), (.double (own_D (((0 + m0) + m1) + m2)))])) _
                  refine XS.daddS X0.here hx rfl (hb hby d1_33) rfl (v := (own_D ((((0 + m0) + m1) + m2) + m3))) (own_nan2 _ _ (by omega)) (own_add _ _ (by omega)) ?_
                  show Steps p.tables e below (s₁.setTop (mkF m 34 #[.val (.ref a1), .val (.double (own_U uu)), .second, .val (.int (3 : Int32)), .val (.double (own_D (((0 + m0) + m1) + m2))), .second, .val (.int (3 : Int32))] [(.double (own_D ((((0 + m0) + m1) + m2) + m3)))])) _
                  refine XS.dstore X0.here hx rfl (hb hby d1_34) rfl (l' := #[.val (.ref a1), .val (.double (own_U uu)), .second, .val (.int (3 : Int32)), .val (.double (own_D ((((0 + m0) + m1) + m2) + m3))), .second, .val (.int (3 : Int32))]) rfl ?_
                  show Steps p.tables e below (s₁.setTop (mkF m 36 #[.val (.ref a1), .val (.double (own_U uu)), .second, .val (.int (3 : Int32)), .val (.double (own_D ((((0 + m0) + m1) + m2) + m3))), .second, .val (.int (3 : Int32))] [])) _
                  refine XS.dloadN X0.here hx rfl (hb hby d1_36) rfl ?_
                  show Steps p.tables e below (s₁.setTop (mkF m 37 #[.val (.ref a1), .val (.double (own_U uu)), .second, .val (.int (3 : Int32)), .val (.double (own_D ((((0 + m0) + m1) + m2) + m3))), .second, .val (.int (3 : Int32))] [(.double (own_U uu))])) _
                  refine XS.dload X0.here hx rfl (hb hby d1_37) rfl ?_
                  show Steps p.tables e below (s₁.setTop (mkF m 39 #[.val (.ref a1), .val (.double (own_U uu)), .second, .val (.int (3 : Int32)), .val (.double (own_D ((((0 + m0) + m1) + m2) + m3))), .second, .val (.int (3 : Int32))] [(.double (own_D ((((0 + m0) + m1) + m2) + m3))), (.double (own_U uu))])) _
                  refine XS.dcmpS X0.here hx rfl (hb hby d1_39) rfl rfl ?_
                  exact kt
                by_cases hc40_4 : uu < 16 * ((((0 + m0) + m1) + m2) + m3)
                · obtain ⟨fs, hr, hrun, hended, hW, hsame⟩ := X0.leave (v := some (.int (3 : Int32))) (fun h => by rw [Bd.returns] at h; cases h)
                  refine ⟨_, _, c20 _ ?_, hrun, hended, _, _, rfl, ?_, ⟨_, rfl⟩, hW, hsame.mono (by decide) (by decide)⟩
                  · show Steps p.tables e below (s₁.setTop (mkF m 40 #[.val (.ref a1), .val (.double (own_U uu)), .second, .val (.int (3 : Int32)), .val (.double (own_D ((((0 + m0) + m1) + m2) + m3))), .second, .val (.int (3 : Int32))] [(.int (cmpValue (FP.dcmp (own_U uu) (own_D ((((0 + m0) + m1) + m2) + m3))) .g))])) _
                    refine XS.ifNo X0.here hx rfl (hb hby d1_40) rfl ((if0 _ _).trans (tlt ((own_lt uu ((((0 + m0) + m1) + m2) + m3) hu (by omega)).mpr hc40_4)).2.1) ?_
                    show Steps p.tables e below (s₁.setTop (mkF m 43 #[.val (.ref a1), .val (.double (own_U uu)), .second, .val (.int (3 : Int32)), .val (.double (own_D ((((0 + m0) + m1) + m2) + m3))), .second, .val (.int (3 : Int32))] [])) _
                    refine XS.goto X0.here hx rfl (pc0 := 43) (pc' := 52) rfl (hb hby d1_43) (by decide) (by decide) ?_
                    show Steps p.tables e below (s₁.setTop (mkF m 52 #[.val (.ref a1), .val (.double (own_U uu)), .second, .val (.int (3 : Int32)), .val (.double (own_D ((((0 + m0) + m1) + m2) + m3))), .second, .val (.int (3 : Int32))] [])) _
                    refine XS.iloadN X0.here hx rfl (hb hby d1_52) rfl ?_
                    show Steps p.tables e below (s₁.setTop (mkF m 53 #[.val (.ref a1), .val (.double (own_U uu)), .second, .val (.int (3 : Int32)), .val (.double (own_D ((((0 + m0) + m1) + m2) + m3))), .second, .val (.int (3 : Int32))] [(.int (3 : Int32))])) _
                    refine XS.ifYes X0.here hx rfl (pc0 := 53) (pc' := 66) rfl (hb hby d1_53) rfl ((if0 _ _).trans (flt (by decide)).2.1) (by decide) (by decide) ?_
                    show Steps p.tables e below (s₁.setTop (mkF m 66 #[.val (.ref a1), .val (.double (own_U uu)), .second, .val (.int (3 : Int32)), .val (.double (own_D ((((0 + m0) + m1) + m2) + m3))), .second, .val (.int (3 : Int32))] [])) _
                    refine XS.iloadN X0.here hx rfl (hb hby d1_66) rfl ?_
                    show Steps p.tables e below (s₁.setTop (mkF m 67 #[.val (.ref a1), .val (.double (own_U uu)), .second, .val (.int (3 : Int32)), .val (.double (own_D ((((0 + m0) + m1) + m2) + m3))), .second, .val (.int (3 : Int32))] [(.int (3 : Int32))])) _
                    exact retI X0 hx Bd.returns (hb hby d1_67) hr
                  · show Q1 Z a1 kk m0 m1 m2 m3 uu h0 n0 _ s₁.heap _
                    rw [e0]
                    have hv : (own_draw m0 m1 m2 m3 uu) = (3 : Int32) := by unfold own_draw; rw [if_pos hc21, if_neg hc40, if_pos hc21_2, if_neg hc40_2, if_pos hc21_3, if_neg hc40_3, if_pos hc21_4]
                    exact ⟨by rw [hv], N0, rfl⟩
                · have cp11_21 := V0
                  obtain ⟨cl11_21, Ar11_21, -, Sa11_21, Na11_21, -, -⟩ := cp11_21
                  obtain ⟨fs, hr, hrun, hended, hW, hsame⟩ := X0.leave (v := some (.int (3 : Int32))) (fun h => by rw [Bd.returns] at h; cases h)
                  refine ⟨_, _, c20 _ ?_, hrun, hended, _, _, rfl, ?_, ⟨_, rfl⟩, hW, hsame.mono (by decide) (by decide)⟩
                  · show Steps p.tables e below (s₁.setTop (mkF m 40 #[.val (.ref a1), .val (.double (own_U uu)), .second, .val (.int (3 : Int32)), .val (.double (own_D ((((0 + m0) + m1) + m2) + m3))), .second, .val (.int (3 : Int32))] [(.int (cmpValue (FP.dcmp (own_U uu) (own_D ((((0 + m0) + m1) + m2) + m3))) .g))])) _
                    refine XS.ifYes X0.here hx rfl (pc0 := 40) (pc' := 46) rfl (hb hby d1_40) rfl ((if0 _ _).trans (flt (fun q => hc40_4 ((own_lt uu ((((0 + m0) + m1) + m2) + m3) hu (by omega)).mp q))).2.1) (by decide) (by decide) ?_
                    show Steps p.tables e below (s₁.setTop (mkF m 46 #[.val (.ref a1), .val (.double (own_U uu)), .second, .val (.int (3 : Int32)), .val (.double (own_D ((((0 + m0) + m1) + m2) + m3))), .second, .val (.int (3 : Int32))] [])) _
                    refine XS.iinc X0.here hx rfl (hb hby d1_46) rfl (l' := #[.val (.ref a1), .val (.double (own_U uu)), .second, .val (.int (3 : Int32)), .val (.double (own_D ((((0 + m0) + m1) + m2) + m3))), .second, .val (.int (4 : Int32))]) rfl ?_
                    show Steps p.tables e below (s₁.setTop (mkF m 49 #[.val (.ref a1), .val (.double (own_U uu)), .second, .val (.int (3 : Int32)), .val (.double (own_D ((((0 + m0) + m1) + m2) + m3))), .second, .val (.int (4 : Int32))] [])) _
                    refine XS.goto X0.here hx rfl (pc0 := 49) (pc' := 8) rfl (hb hby d1_49) (by decide) (by decide) ?_
                    show Steps p.tables e below (s₁.setTop (mkF m 8 #[.val (.ref a1), .val (.double (own_U uu)), .second, .val (.int (3 : Int32)), .val (.double (own_D ((((0 + m0) + m1) + m2) + m3))), .second, .val (.int (4 : Int32))] [])) _
                    refine XS.iload X0.here hx rfl (hb hby d1_8) rfl ?_
                    show Steps p.tables e below (s₁.setTop (mkF m 10 #[.val (.ref a1), .val (.double (own_U uu)), .second, .val (.int (3 : Int32)), .val (.double (own_D ((((0 + m0) + m1) + m2) + m3))), .second, .val (.int (4 : Int32))] [(.int (4 : Int32))])) _
                    refine XS.aloadN X0.here hx rfl (hb hby d1_10) rfl rfl ?_
                    show Steps p.tables e below (s₁.setTop (mkF m 11 #[.val (.ref a1), .val (.double (own_U uu)), .second, .val (.int (3 : Int32)), .val (.double (own_D ((((0 + m0) + m1) + m2) + m3))), .second, .val (.int (4 : Int32))] [(.ref a1), (.int (4 : Int32))])) _
                    refine X0.arraylength hx (by first | exact Ar11_21.1 | (rw [e0]; exact Ar11_21.1)) (State.isArrayOf_alike hZ.alike Ar11_21.2.1) (g := (mkF m 11 #[.val (.ref a1), .val (.double (own_U uu)), .second, .val (.int (3 : Int32)), .val (.double (own_D ((((0 + m0) + m1) + m2) + m3))), .second, .val (.int (4 : Int32))] [(.ref a1), (.int (4 : Int32))])) rfl rfl (hb hby d1_11) _ ?_
                    rw [len_of Sa11_21 Na11_21]
                    show Steps p.tables e below (s₁.setTop (mkF m 12 #[.val (.ref a1), .val (.double (own_U uu)), .second, .val (.int (3 : Int32)), .val (.double (own_D ((((0 + m0) + m1) + m2) + m3))), .second, .val (.int (4 : Int32))] [(.int (4 : Int32)), (.int (4 : Int32))])) _
                    refine XS.icmpYes X0.here hx rfl (pc0 := 12) (pc' := 52) rfl (hb hby d1_12) rfl (flt (by decide)).2.1 (by decide) (by decide) ?_
                    show Steps p.tables e below (s₁.setTop (mkF m 52 #[.val (.ref a1), .val (.double (own_U uu)), .second, .val (.int (3 : Int32)), .val (.double (own_D ((((0 + m0) + m1) + m2) + m3))), .second, .val (.int (4 : Int32))] [])) _
                    refine XS.iloadN X0.here hx rfl (hb hby d1_52) rfl ?_
                    show Steps p.tables e below (s₁.setTop (mkF m 53 #[.val (.ref a1), .val (.double (own_U uu)), .second, .val (.int (3 : Int32)), .val (.double (own_D ((((0 + m0) + m1) + m2) + m3))), .second, .val (.int (4 : Int32))] [(.int (3 : Int32))])) _
                    refine XS.ifYes X0.here hx rfl (pc0 := 53) (pc' := 66) rfl (hb hby d1_53) rfl ((if0 _ _).trans (flt (by decide)).2.1) (by decide) (by decide) ?_
                    show Steps p.tables e below (s₁.setTop (mkF m 66 #[.val (.ref a1), .val (.double (own_U uu)), .second, .val (.int (3 : Int32)), .val (.double (own_D ((((0 + m0) + m1) + m2) + m3))), .second, .val (.int (4 : Int32))] [])) _
                    refine XS.iloadN X0.here hx rfl (hb hby d1_66) rfl ?_
                    show Steps p.tables e below (s₁.setTop (mkF m 67 #[.val (.ref a1), .val (.double (own_U uu)), .second, .val (.int (3 : Int32)), .val (.double (own_D ((((0 + m0) + m1) + m2) + m3))), .second, .val (.int (4 : Int32))] [(.int (3 : Int32))])) _
                    exact retI X0 hx Bd.returns (hb hby d1_67) hr
                  · show Q1 Z a1 kk m0 m1 m2 m3 uu h0 n0 _ s₁.heap _
                    rw [e0]
                    have hv : (own_draw m0 m1 m2 m3 uu) = (3 : Int32) := by unfold own_draw; rw [if_pos hc21, if_neg hc40, if_pos hc21_2, if_neg hc40_2, if_pos hc21_3, if_neg hc40_3, if_pos hc21_4]
                    exact ⟨by rw [hv], N0, rfl⟩
              · have cp11_22 := V0
                obtain ⟨cl11_22, Ar11_22, -, Sa11_22, Na11_22, -, -⟩ := cp11_22
                obtain ⟨fs, hr, hrun, hended, hW, hsame⟩ := X0.leave (v := some (.int (2 : Int32))) (fun h => by rw [Bd.returns] at h; cases h)
                refine ⟨_, _, c18 _ ?_, hrun, hended, _, _, rfl, ?_, ⟨_, rfl⟩, hW, hsame.mono (by decide) (by decide)⟩
                · show Steps p.tables e below (s₁.setTop (mkF m 21 #[.val (.ref a1), .val (.double (own_U uu)), .second, .val (.int (2 : Int32)), .val (.double (own_D (((0 + m0) + m1) + m2))), .second, .val (.int (3 : Int32))] [(.int (cmpValue (FP.dcmp (own_D m3) (own_D 0)) .l))])) _
                  refine XS.ifYes X0.here hx rfl (pc0 := 21) (pc' := 46) rfl (hb hby d1_21) rfl ((if0 _ _).trans (flt (fun q => hc21_4 ((own_gt m3 (by omega)).mp q))).2.2.2) (by decide) (by decide) ?_
                  show Steps p.tables e below (s₁.setTop (mkF m 46 #[.val (.ref a1), .val (.double (own_U uu)), .second, .val (.int (2 : Int32)), .val (.double (own_D (((0 + m0) + m1) + m2))), .second, .val (.int (3 : Int32))] [])) _
                  refine XS.iinc X0.here hx rfl (hb hby d1_46) rfl (l' := #[.val (.ref a1), .val (.double (own_U uu)), .second, .val (.int (2 : Int32)), .val (.double (own_D (((0 + m0) + m1) + m2))), .second, .val (.int (4 : Int32))]) rfl ?_
                  show Steps p.tables e below (s₁.setTop (mkF m 49 #[.val (.ref a1), .val (.double (own_U uu)), .second, .val (.int (2 : Int32)), .val (.double (own_D (((0 + m0) + m1) + m2))), .second, .val (.int (4 : Int32))] [])) _
                  refine XS.goto X0.here hx rfl (pc0 := 49) (pc' := 8) rfl (hb hby d1_49) (by decide) (by decide) ?_
                  show Steps p.tables e below (s₁.setTop (mkF m 8 #[.val (.ref a1), .val (.double (own_U uu)), .second, .val (.int (2 : Int32)), .val (.double (own_D (((0 + m0) + m1) + m2))), .second, .val (.int (4 : Int32))] [])) _
                  refine XS.iload X0.here hx rfl (hb hby d1_8) rfl ?_
                  show Steps p.tables e below (s₁.setTop (mkF m 10 #[.val (.ref a1), .val (.double (own_U uu)), .second, .val (.int (2 : Int32)), .val (.double (own_D (((0 + m0) + m1) + m2))), .second, .val (.int (4 : Int32))] [(.int (4 : Int32))])) _
                  refine XS.aloadN X0.here hx rfl (hb hby d1_10) rfl rfl ?_
                  show Steps p.tables e below (s₁.setTop (mkF m 11 #[.val (.ref a1), .val (.double (own_U uu)), .second, .val (.int (2 : Int32)), .val (.double (own_D (((0 + m0) + m1) + m2))), .second, .val (.int (4 : Int32))] [(.ref a1), (.int (4 : Int32))])) _
                  refine X0.arraylength hx (by first | exact Ar11_22.1 | (rw [e0]; exact Ar11_22.1)) (State.isArrayOf_alike hZ.alike Ar11_22.2.1) (g := (mkF m 11 #[.val (.ref a1), .val (.double (own_U uu)), .second, .val (.int (2 : Int32)), .val (.double (own_D (((0 + m0) + m1) + m2))), .second, .val (.int (4 : Int32))] [(.ref a1), (.int (4 : Int32))])) rfl rfl (hb hby d1_11) _ ?_
                  rw [len_of Sa11_22 Na11_22]
                  show Steps p.tables e below (s₁.setTop (mkF m 12 #[.val (.ref a1), .val (.double (own_U uu)), .second, .val (.int (2 : Int32)), .val (.double (own_D (((0 + m0) + m1) + m2))), .second, .val (.int (4 : Int32))] [(.int (4 : Int32)), (.int (4 : Int32))])) _
                  refine XS.icmpYes X0.here hx rfl (pc0 := 12) (pc' := 52) rfl (hb hby d1_12) rfl (flt (by decide)).2.1 (by decide) (by decide) ?_
                  show Steps p.tables e below (s₁.setTop (mkF m 52 #[.val (.ref a1), .val (.double (own_U uu)), .second, .val (.int (2 : Int32)), .val (.double (own_D (((0 + m0) + m1) + m2))), .second, .val (.int (4 : Int32))] [])) _
                  refine XS.iloadN X0.here hx rfl (hb hby d1_52) rfl ?_
                  show Steps p.tables e below (s₁.setTop (mkF m 53 #[.val (.ref a1), .val (.double (own_U uu)), .second, .val (.int (2 : Int32)), .val (.double (own_D (((0 + m0) + m1) + m2))), .second, .val (.int (4 : Int32))] [(.int (2 : Int32))])) _
                  refine XS.ifYes X0.here hx rfl (pc0 := 53) (pc' := 66) rfl (hb hby d1_53) rfl ((if0 _ _).trans (flt (by decide)).2.1) (by decide) (by decide) ?_
                  show Steps p.tables e below (s₁.setTop (mkF m 66 #[.val (.ref a1), .val (.double (own_U uu)), .second, .val (.int (2 : Int32)), .val (.double (own_D (((0 + m0) + m1) + m2))), .second, .val (.int (4 : Int32))] [])) _
                  refine XS.iloadN X0.here hx rfl (hb hby d1_66) rfl ?_
                  show Steps p.tables e below (s₁.setTop (mkF m 67 #[.val (.ref a1), .val (.double (own_U uu)), .second, .val (.int (2 : Int32)), .val (.double (own_D (((0 + m0) + m1) + m2))), .second, .val (.int (4 : Int32))] [(.int (2 : Int32))])) _
                  exact retI X0 hx Bd.returns (hb hby d1_67) hr
                · show Q1 Z a1 kk m0 m1 m2 m3 uu h0 n0 _ s₁.heap _
                  rw [e0]
                  have hv : (own_draw m0 m1 m2 m3 uu) = (2 : Int32) := by unfold own_draw; rw [if_pos hc21, if_neg hc40, if_pos hc21_2, if_neg hc40_2, if_pos hc21_3, if_neg hc40_3, if_neg hc21_4]
                  exact ⟨by rw [hv], N0, rfl⟩
          · have cp11_23 := V0
            obtain ⟨cl11_23, Ar11_23, -, Sa11_23, Na11_23, -, -⟩ := cp11_23
            have cp18_24 := V0
            obtain ⟨cl18_24, Ar18_24, -, Sa18_24, Na18_24, Ha18_24, -⟩ := cp18_24
            have hin18_24 : ¬ ((3 : Int32) < 0 ∨ cl18_24.slots.size ≤ ((3 : Int32)).toNatClampNeg) := inb_of Sa18_24 ⟨by decide, by decide⟩
            have hat18_24 : cl18_24.slots[((3 : Int32)).toNatClampNeg]? = some (.double (own_D m3)) := Ha18_24.at hin18_24 rfl
            have c25 : ∀ t, Steps p.tables e below (s₁.setTop (mkF m 21 #[.val (.ref a1), .val (.double (own_U uu)), .second, .val (.int (1 : Int32)), .val (.double (own_D ((0 + m0) + m1))), .second, .val (.int (3 : Int32))] [(.int (cmpValue (FP.dcmp (own_D m3) (own_D 0)) .l))])) t → Steps p.tables e below (s₁.setTop (entryFrame m #[(.ref a1), (.double (own_U uu))] 7)) t := fun t kt => by
              refine c13 _ ?_
              show Steps p.tables e below (s₁.setTop (mkF m 21 #[.val (.ref a1), .val (.double (own_U uu)), .second, .val (.int (1 : Int32)), .val (.double (own_D ((0 + m0) + m1))), .second, .val (.int (2 : Int32))] [(.int (cmpValue (FP.dcmp (own_D m2) (own_D 0)) .l))])) _
              refine XS.ifYes X0.here hx rfl (pc0 := 21) (pc' := 46) rfl (hb hby d1_21) rfl ((if0 _ _).trans (flt (fun q => hc21_3 ((own_gt m2 (by omega)).mp q))).2.2.2) (by decide) (by decide) ?_
              show Steps p.tables e below (s₁.setTop (mkF m 46 #[.val (.ref a1), .val (.double (own_U uu)), .second, .val (.int (1 : Int32)), .val (.double (own_D ((0 + m0) + m1))), .second, .val (.int (2 : Int32))] [])) _
              refine XS.iinc X0.here hx rfl (hb hby d1_46) rfl (l' := #[.val (.ref a1), .val (.double (own_U uu)), .second, .val (.int (1 : Int32)), .val (.double (own_D ((0 + m0) + m1))), .second, .val (.int (3 : Int32))]) rfl ?_
              show Steps p.tables e below (s₁.setTop (mkF m 49 #[.val (.ref a1), .val (.double (own_U uu)), .second, .val (.int (1 : Int32)), .val (.double (own_D ((0 + m0) + m1))), .second, .val (.int (3 : Int32))] [])) _
              refine XS.goto X0.here hx rfl (pc0 := 49) (pc' := 8) rfl (hb hby d1_49) (by decide) (by decide) ?_
              show Steps p.tables e below (s₁.setTop (mkF m 8 #[.val (.ref a1), .val (.double (own_U uu)), .second, .val (.int (1 : Int32)), .val (.double (own_D ((0 + m0) + m1))), .second, .val (.int (3 : Int32))] [])) _
              refine XS.iload X0.here hx rfl (hb hby d1_8) rfl ?_
              show Steps p.tables e below (s₁.setTop (mkF m 10 #[.val (.ref a1), .val (.double (own_U uu)), .second, .val (.int (1 : Int32)), .val (.double (own_D ((0 + m0) + m1))), .second, .val (.int (3 : Int32))] [(.int (3 : Int32))])) _
              refine XS.aloadN X0.here hx rfl (hb hby d1_10) rfl rfl ?_
              show Steps p.tables e below (s₁.setTop (mkF m 11 #[.val (.ref a1), .val (.double (own_U uu)), .second, .val (.int (1 : Int32)), .val (.double (own_D ((0 + m0) + m1))), .second, .val (.int (3 : Int32))] [(.ref a1), (.int (3 : Int32))])) _
              refine X0.arraylength hx (by first | exact Ar11_23.1 | (rw [e0]; exact Ar11_23.1)) (State.isArrayOf_alike hZ.alike Ar11_23.2.1) (g := (mkF m 11 #[.val (.ref a1), .val (.double (own_U uu)), .second, .val (.int (1 : Int32)), .val (.double (own_D ((0 + m0) + m1))), .second, .val (.int (3 : Int32))] [(.ref a1), (.int (3 : Int32))])) rfl rfl (hb hby d1_11) _ ?_
              rw [len_of Sa11_23 Na11_23]
              show Steps p.tables e below (s₁.setTop (mkF m 12 #[.val (.ref a1), .val (.double (own_U uu)), .second, .val (.int (1 : Int32)), .val (.double (own_D ((0 + m0) + m1))), .second, .val (.int (3 : Int32))] [(.int (4 : Int32)), (.int (3 : Int32))])) _
              refine XS.icmpNo X0.here hx rfl (hb hby d1_12) rfl (tlt (by decide)).2.1 ?_
              show Steps p.tables e below (s₁.setTop (mkF m 15 #[.val (.ref a1), .val (.double (own_U uu)), .second, .val (.int (1 : Int32)), .val (.double (own_D ((0 + m0) + m1))), .second, .val (.int (3 : Int32))] [])) _
              refine XS.aloadN X0.here hx rfl (hb hby d1_15) rfl rfl ?_
              show Steps p.tables e below (s₁.setTop (mkF m 16 #[.val (.ref a1), .val (.double (own_U uu)), .second, .val (.int (1 : Int32)), .val (.double (own_D ((0 + m0) + m1))), .second, .val (.int (3 : Int32))] [(.ref a1)])) _
              refine XS.iload X0.here hx rfl (hb hby d1_16) rfl ?_
              show Steps p.tables e below (s₁.setTop (mkF m 18 #[.val (.ref a1), .val (.double (own_U uu)), .second, .val (.int (1 : Int32)), .val (.double (own_D ((0 + m0) + m1))), .second, .val (.int (3 : Int32))] [(.int (3 : Int32)), (.ref a1)])) _
              refine X0.daload hx (j := (3 : Int32)) (v := (.double (own_D m3))) (by first | exact Ar18_24.1 | (rw [e0]; exact Ar18_24.1)) (State.isArrayOf_alike hZ.alike Ar18_24.2.1) Ar18_24.2.2 hin18_24 hat18_24 (g := (mkF m 18 #[.val (.ref a1), .val (.double (own_U uu)), .second, .val (.int (1 : Int32)), .val (.double (own_D ((0 + m0) + m1))), .second, .val (.int (3 : Int32))] [(.int (3 : Int32)), (.ref a1)])) rfl rfl (hb hby d1_18) _ ?_
              show Steps p.tables e below (s₁.setTop (mkF m 19 #[.val (.ref a1), .val (.double (own_U uu)), .second, .val (.int (1 : Int32)), .val (.double (own_D ((0 + m0) + m1))), .second, .val (.int (3 : Int32))] [(.double (own_D m3))])) _
              refine XS.dconst0 X0.here hx rfl (v := (own_D 0)) (hb hby d1_19) own_D0 ?_
              show Steps p.tables e below (s₁.setTop (mkF m 20 #[.val (.ref a1), .val (.double (own_U uu)), .second, .val (.int (1 : Int32)), .val (.double (own_D ((0 + m0) + m1))), .second, .val (.int (3 : Int32))] [(.double (own_D 0)), (.double (own_D m3))])) _
              refine XS.dcmpS X0.here hx rfl (hb hby d1_20) rfl rfl ?_
              exact kt
            by_cases hc21_4 : 0 < m3
            · have cp32_26 := V0
              obtain ⟨cl32_26, Ar32_26, -, Sa32_26, Na32_26, Ha32_26, -⟩ := cp32_26
              have hin32_26 : ¬ ((3 : Int32) < 0 ∨ cl32_26.slots.size ≤ ((3 : Int32)).toNatClampNeg) := inb_of Sa32_26 ⟨by decide, by decide⟩
              have hat32_26 : cl32_26.slots[((3 : Int32)).toNatClampNeg]? = some (.double (own_D m3)) := Ha32_26.at hin32_26 rfl
              have c27 : ∀ t, Steps p.tables e below (s₁.setTop (mkF m 40 #[.val (.ref a1), .val (.double (own_U uu)), .second, .val (.int (3 : Int32)), .val (.double (own_D (((0 + m0) + m1) + m3))), .second, .val (.int (3 : Int32))] [(.int (cmpValue (FP.dcmp (own_U uu) (own_D (((0 + m0) + m1) + m3))) .g))])) t → Steps p.tables e below (s₁.setTop (entryFrame m #[(.ref a1), (.double (own_U uu))] 7)) t := fun t kt => by
                refine c25 _ ?_
                show Steps p.tables e below (s₁.setTop (mkF m 21 #[.val (.ref a1), .val (.double (own_U uu)), .second, .val (.int (1 : Int32)), .val (.double (own_D ((0 + m0) + m1))), .second, .val (.int (3 : Int32))] [(.int (cmpValue (FP.dcmp (own_D m3) (own_D 0)) .l))])) _
                refine XS.ifNo X0.here hx rfl (hb hby d1_21) rfl ((if0 _ _).trans (tlt ((own_gt m3 (by omega)).mpr hc21_4)).2.2.2) ?_
                show Steps p.tables e below (s₁.setTop (mkF m 24 #[.val (.ref a1), .val (.double (own_U uu)), .second, .val (.int (1 : Int32)), .val (.double (own_D ((0 + m0) + m1))), .second, .val (.int (3 : Int32))] [])) _
                refine XS.iload X0.here hx rfl (hb hby d1_24) rfl ?_
                show Steps p.tables e below (s₁.setTop (mkF m 26 #[.val (.ref a1), .val (.double (own_U uu)), .second, .val (.int (1 : Int32)), .val (.double (own_D ((0 + m0) + m1))), .second, .val (.int (3 : Int32))] [(.int (3 : Int32))])) _
                refine XS.istoreN X0.here hx rfl (hb hby d1_26) rfl (l' := #[.val (.ref a1), .val (.double (own_U uu)), .second, .val (.int (3 : Int32)), .val (.double (own_D ((0 + m0) + m1))), .second, .val (.int (3 : Int32))]) rfl ?_
                show Steps p.tables e below (s₁.setTop (mkF m 27 #[.val (.ref a1), .val (.double (own_U uu)), .second, .val (.int (3 : Int32)), .val (.double (own_D ((0 + m0) + m1))), .second, .val (.int (3 : Int32))] [])) _
                refine XS.dload X0.here hx rfl (hb hby d1_27) rfl ?_
                show Steps p.tables e below (s₁.setTop (mkF m 29 #[.val (.ref a1), .val (.double (own_U uu)), .second, .val (.int (3 : Int32)), .val (.double (own_D ((0 + m0) + m1))), .second, .val (.int (3 : Int32))] [(.double (own_D ((0 + m0) + m1)))])) _
                refine XS.aloadN X0.here hx rfl (hb hby d1_29) rfl rfl ?_
                show Steps p.tables e below (s₁.setTop (mkF m 30 #[.val (.ref a1), .val (.double (own_U uu)), .second, .val (.int (3 : Int32)), .val (.double (own_D ((0 + m0) + m1))), .second, .val (.int (3 : Int32))] [(.ref a1), (.double (own_D ((0 + m0) + m1)))])) _
                refine XS.iload X0.here hx rfl (hb hby d1_30) rfl ?_
                show Steps p.tables e below (s₁.setTop (mkF m 32 #[.val (.ref a1), .val (.double (own_U uu)), .second, .val (.int (3 : Int32)), .val (.double (own_D ((0 + m0) + m1))), .second, .val (.int (3 : Int32))] [(.int (3 : Int32)), (.ref a1), (.double (own_D ((0 + m0) + m1)))])) _
                refine X0.daload hx (j := (3 : Int32)) (v := (.double (own_D m3))) (by first | exact Ar32_26.1 | (rw [e0]; exact Ar32_26.1)) (State.isArrayOf_alike hZ.alike Ar32_26.2.1) Ar32_26.2.2 hin32_26 hat32_26 (g := (mkF m 32 #[.val (.ref a1), .val (.double (own_U uu)), .second, .val (.int (3 : Int32)), .val (.double (own_D ((0 + m0) + m1))), .second, .val (.int (3 : Int32))] [(.int (3 : Int32)), (.ref a1), (.double (own_D ((0 + m0) + m1)))])) rfl rfl (hb hby d1_32) _ ?_
                show Steps p.tables e below (s₁.setTop (mkF m 33 #[.val (.ref a1), .val (.double (own_U uu)), .second, .val (.int (3 : Int32)), .val (.double (own_D ((0 + m0) + m1))), .second, .val (.int (3 : Int32))] [(.double (own_D m3)), (.double (own_D ((0 + m0) + m1)))])) _
                refine XS.daddS X0.here hx rfl (hb hby d1_33) rfl (v := (own_D (((0 + m0) + m1) + m3))) (own_nan2 _ _ (by omega)) (own_add _ _ (by omega)) ?_
                show Steps p.tables e below (s₁.setTop (mkF m 34 #[.val (.ref a1), .val (.double (own_U uu)), .second, .val (.int (3 : Int32)), .val (.double (own_D ((0 + m0) + m1))), .second, .val (.int (3 : Int32))] [(.double (own_D (((0 + m0) + m1) + m3)))])) _
                refine XS.dstore X0.here hx rfl (hb hby d1_34) rfl (l' := #[.val (.ref a1), .val (.double (own_U uu)), .second, .val (.int (3 : Int32)), .val (.double (own_D (((0 + m0) + m1) + m3))), .second, .val (.int (3 : Int32))]) rfl ?_
                show Steps p.tables e below (s₁.setTop (mkF m 36 #[.val (.ref a1), .val (.double (own_U uu)), .second, .val (.int (3 : Int32)), .val (.double (own_D (((0 + m0) + m1) + m3))), .second, .val (.int (3 : Int32))] [])) _
                refine XS.dloadN X0.here hx rfl (hb hby d1_36) rfl ?_
                show Steps p.tables e below (s₁.setTop (mkF m 37 #[.val (.ref a1), .val (.double (own_U uu)), .second, .val (.int (3 : Int32)), .val (.double (own_D (((0 + m0) + m1) + m3))), .second, .val (.int (3 : Int32))] [(.double (own_U uu))])) _
                refine XS.dload X0.here hx rfl (hb hby d1_37) rfl ?_
                show Steps p.tables e below (s₁.setTop (mkF m 39 #[.val (.ref a1), .val (.double (own_U uu)), .second, .val (.int (3 : Int32)), .val (.double (own_D (((0 + m0) + m1) + m3))), .second, .val (.int (3 : Int32))] [(.double (own_D (((0 + m0) + m1) + m3))), (.double (own_U uu))])) _
                refine XS.dcmpS X0.here hx rfl (hb hby d1_39) rfl rfl ?_
                exact kt
              by_cases hc40_3 : uu < 16 * (((0 + m0) + m1) + m3)
              · obtain ⟨fs, hr, hrun, hended, hW, hsame⟩ := X0.leave (v := some (.int (3 : Int32))) (fun h => by rw [Bd.returns] at h; cases h)
                refine ⟨_, _, c27 _ ?_, hrun, hended, _, _, rfl, ?_, ⟨_, rfl⟩, hW, hsame.mono (by decide) (by decide)⟩
                · show Steps p.tables e below (s₁.setTop (mkF m 40 #[.val (.ref a1), .val (.double (own_U uu)), .second, .val (.int (3 : Int32)), .val (.double (own_D (((0 + m0) + m1) + m3))), .second, .val (.int (3 : Int32))] [(.int (cmpValue (FP.dcmp (own_U uu) (own_D (((0 + m0) + m1) + m3))) .g))])) _
                  refine XS.ifNo X0.here hx rfl (hb hby d1_40) rfl ((if0 _ _).trans (tlt ((own_lt uu (((0 + m0) + m1) + m3) hu (by omega)).mpr hc40_3)).2.1) ?_
                  show Steps p.tables e below (s₁.setTop (mkF m 43 #[.val (.ref a1), .val (.double (own_U uu)), .second, .val (.int (3 : Int32)), .val (.double (own_D (((0 + m0) + m1) + m3))), .second, .val (.int (3 : Int32))] [])) _
                  refine XS.goto X0.here hx rfl (pc0 := 43) (pc' := 52) rfl (hb hby d1_43) (by decide) (by decide) ?_
                  show Steps p.tables e below (s₁.setTop (mkF m 52 #[.val (.ref a1), .val (.double (own_U uu)), .second, .val (.int (3 : Int32)), .val (.double (own_D (((0 + m0) + m1) + m3))), .second, .val (.int (3 : Int32))] [])) _
                  refine XS.iloadN X0.here hx rfl (hb hby d1_52) rfl ?_
                  show Steps p.tables e below (s₁.setTop (mkF m 53 #[.val (.ref a1), .val (.double (own_U uu)), .second, .val (.int (3 : Int32)), .val (.double (own_D (((0 + m0) + m1) + m3))), .second, .val (.int (3 : Int32))] [(.int (3 : Int32))])) _
                  refine XS.ifYes X0.here hx rfl (pc0 := 53) (pc' := 66) rfl (hb hby d1_53) rfl ((if0 _ _).trans (flt (by decide)).2.1) (by decide) (by decide) ?_
                  show Steps p.tables e below (s₁.setTop (mkF m 66 #[.val (.ref a1), .val (.double (own_U uu)), .second, .val (.int (3 : Int32)), .val (.double (own_D (((0 + m0) + m1) + m3))), .second, .val (.int (3 : Int32))] [])) _
                  refine XS.iloadN X0.here hx rfl (hb hby d1_66) rfl ?_
                  show Steps p.tables e below (s₁.setTop (mkF m 67 #[.val (.ref a1), .val (.double (own_U uu)), .second, .val (.int (3 : Int32)), .val (.double (own_D (((0 + m0) + m1) + m3))), .second, .val (.int (3 : Int32))] [(.int (3 : Int32))])) _
                  exact retI X0 hx Bd.returns (hb hby d1_67) hr
                · show Q1 Z a1 kk m0 m1 m2 m3 uu h0 n0 _ s₁.heap _
                  rw [e0]
                  have hv : (own_draw m0 m1 m2 m3 uu) = (3 : Int32) := by unfold own_draw; rw [if_pos hc21, if_neg hc40, if_pos hc21_2, if_neg hc40_2, if_neg hc21_3, if_pos hc21_4]
                  exact ⟨by rw [hv], N0, rfl⟩
              · have cp11_28 := V0
                obtain ⟨cl11_28, Ar11_28, -, Sa11_28, Na11_28, -, -⟩ := cp11_28
                obtain ⟨fs, hr, hrun, hended, hW, hsame⟩ := X0.leave (v := some (.int (3 : Int32))) (fun h => by rw [Bd.returns] at h; cases h)
                refine ⟨_, _, c27 _ ?_, hrun, hended, _, _, rfl, ?_, ⟨_, rfl⟩, hW, hsame.mono (by decide) (by decide)⟩
                · show Steps p.tables e below (s₁.setTop (mkF m 40 #[.val (.ref a1), .val (.double (own_U uu)), .second, .val (.int (3 : Int32)), .val (.double (own_D (((0 + m0) + m1) + m3))), .second, .val (.int (3 : Int32))] [(.int (cmpValue (FP.dcmp (own_U uu) (own_D (((0 + m0) + m1) + m3))) .g))])) _
                  refine XS.ifYes X0.here hx rfl (pc0 := 40) (pc' := 46) rfl (hb hby d1_40) rfl ((if0 _ _).trans (flt (fun q => hc40_3 ((own_lt uu (((0 + m0) + m1) + m3) hu (by omega)).mp q))).2.1) (by decide) (by decide) ?_
                  show Steps p.tables e below (s₁.setTop (mkF m 46 #[.val (.ref a1), .val (.double (own_U uu)), .second, .val (.int (3 : Int32)), .val (.double (own_D (((0 + m0) + m1) + m3))), .second, .val (.int (3 : Int32))] [])) _
                  refine XS.iinc X0.here hx rfl (hb hby d1_46) rfl (l' := #[.val (.ref a1), .val (.double (own_U uu)), .second, .val (.int (3 : Int32)), .val (.double (own_D (((0 + m0) + m1) + m3))), .second, .val (.int (4 : Int32))]) rfl ?_
                  show Steps p.tables e below (s₁.setTop (mkF m 49 #[.val (.ref a1), .val (.double (own_U uu)), .second, .val (.int (3 : Int32)), .val (.double (own_D (((0 + m0) + m1) + m3))), .second, .val (.int (4 : Int32))] [])) _
                  refine XS.goto X0.here hx rfl (pc0 := 49) (pc' := 8) rfl (hb hby d1_49) (by decide) (by decide) ?_
                  show Steps p.tables e below (s₁.setTop (mkF m 8 #[.val (.ref a1), .val (.double (own_U uu)), .second, .val (.int (3 : Int32)), .val (.double (own_D (((0 + m0) + m1) + m3))), .second, .val (.int (4 : Int32))] [])) _
                  refine XS.iload X0.here hx rfl (hb hby d1_8) rfl ?_
                  show Steps p.tables e below (s₁.setTop (mkF m 10 #[.val (.ref a1), .val (.double (own_U uu)), .second, .val (.int (3 : Int32)), .val (.double (own_D (((0 + m0) + m1) + m3))), .second, .val (.int (4 : Int32))] [(.int (4 : Int32))])) _
                  refine XS.aloadN X0.here hx rfl (hb hby d1_10) rfl rfl ?_
                  show Steps p.tables e below (s₁.setTop (mkF m 11 #[.val (.ref a1), .val (.double (own_U uu)), .second, .val (.int (3 : Int32)), .val (.double (own_D (((0 + m0) + m1) + m3))), .second, .val (.int (4 : Int32))] [(.ref a1), (.int (4 : Int32))])) _
                  refine X0.arraylength hx (by first | exact Ar11_28.1 | (rw [e0]; exact Ar11_28.1)) (State.isArrayOf_alike hZ.alike Ar11_28.2.1) (g := (mkF m 11 #[.val (.ref a1), .val (.double (own_U uu)), .second, .val (.int (3 : Int32)), .val (.double (own_D (((0 + m0) + m1) + m3))), .second, .val (.int (4 : Int32))] [(.ref a1), (.int (4 : Int32))])) rfl rfl (hb hby d1_11) _ ?_
                  rw [len_of Sa11_28 Na11_28]
                  show Steps p.tables e below (s₁.setTop (mkF m 12 #[.val (.ref a1), .val (.double (own_U uu)), .second, .val (.int (3 : Int32)), .val (.double (own_D (((0 + m0) + m1) + m3))), .second, .val (.int (4 : Int32))] [(.int (4 : Int32)), (.int (4 : Int32))])) _
                  refine XS.icmpYes X0.here hx rfl (pc0 := 12) (pc' := 52) rfl (hb hby d1_12) rfl (flt (by decide)).2.1 (by decide) (by decide) ?_
                  show Steps p.tables e below (s₁.setTop (mkF m 52 #[.val (.ref a1), .val (.double (own_U uu)), .second, .val (.int (3 : Int32)), .val (.double (own_D (((0 + m0) + m1) + m3))), .second, .val (.int (4 : Int32))] [])) _
                  refine XS.iloadN X0.here hx rfl (hb hby d1_52) rfl ?_
                  show Steps p.tables e below (s₁.setTop (mkF m 53 #[.val (.ref a1), .val (.double (own_U uu)), .second, .val (.int (3 : Int32)), .val (.double (own_D (((0 + m0) + m1) + m3))), .second, .val (.int (4 : Int32))] [(.int (3 : Int32))])) _
                  refine XS.ifYes X0.here hx rfl (pc0 := 53) (pc' := 66) rfl (hb hby d1_53) rfl ((if0 _ _).trans (flt (by decide)).2.1) (by decide) (by decide) ?_
                  show Steps p.tables e below (s₁.setTop (mkF m 66 #[.val (.ref a1), .val (.double (own_U uu)), .second, .val (.int (3 : Int32)), .val (.double (own_D (((0 + m0) + m1) + m3))), .second, .val (.int (4 : Int32))] [])) _
                  refine XS.iloadN X0.here hx rfl (hb hby d1_66) rfl ?_
                  show Steps p.tables e below (s₁.setTop (mkF m 67 #[.val (.ref a1), .val (.double (own_U uu)), .second, .val (.int (3 : Int32)), .val (.double (own_D (((0 + m0) + m1) + m3))), .second, .val (.int (4 : Int32))] [(.int (3 : Int32))])) _
                  exact retI X0 hx Bd.returns (hb hby d1_67) hr
                · show Q1 Z a1 kk m0 m1 m2 m3 uu h0 n0 _ s₁.heap _
                  rw [e0]
                  have hv : (own_draw m0 m1 m2 m3 uu) = (3 : Int32) := by unfold own_draw; rw [if_pos hc21, if_neg hc40, if_pos hc21_2, if_neg hc40_2, if_neg hc21_3, if_pos hc21_4]
                  exact ⟨by rw [hv], N0, rfl⟩
            · have cp11_29 := V0
              obtain ⟨cl11_29, Ar11_29, -, Sa11_29, Na11_29, -, -⟩ := cp11_29
              obtain ⟨fs, hr, hrun, hended, hW, hsame⟩ := X0.leave (v := some (.int (1 : Int32))) (fun h => by rw [Bd.returns] at h; cases h)
              refine ⟨_, _, c25 _ ?_, hrun, hended, _, _, rfl, ?_, ⟨_, rfl⟩, hW, hsame.mono (by decide) (by decide)⟩
              · show Steps p.tables e below (s₁.setTop (mkF m 21 #[.val (.ref a1), .val (.double (own_U uu)), .second, .val (.int (1 : Int32)), .val (.double (own_D ((0 + m0) + m1))), .second, .val (.int (3 : Int32))] [(.int (cmpValue (FP.dcmp (own_D m3) (own_D 0)) .l))])) _
                refine XS.ifYes X0.here hx rfl (pc0 := 21) (pc' := 46) rfl (hb hby d1_21) rfl ((if0 _ _).trans (flt (fun q => hc21_4 ((own_gt m3 (by omega)).mp q))).2.2.2) (by decide) (by decide) ?_
                show Steps p.tables e below (s₁.setTop (mkF m 46 #[.val (.ref a1), .val (.double (own_U uu)), .second, .val (.int (1 : Int32)), .val (.double (own_D ((0 + m0) + m1))), .second, .val (.int (3 : Int32))] [])) _
                refine XS.iinc X0.here hx rfl (hb hby d1_46) rfl (l' := #[.val (.ref a1), .val (.double (own_U uu)), .second, .val (.int (1 : Int32)), .val (.double (own_D ((0 + m0) + m1))), .second, .val (.int (4 : Int32))]) rfl ?_
                show Steps p.tables e below (s₁.setTop (mkF m 49 #[.val (.ref a1), .val (.double (own_U uu)), .second, .val (.int (1 : Int32)), .val (.double (own_D ((0 + m0) + m1))), .second, .val (.int (4 : Int32))] [])) _
                refine XS.goto X0.here hx rfl (pc0 := 49) (pc' := 8) rfl (hb hby d1_49) (by decide) (by decide) ?_
                show Steps p.tables e below (s₁.setTop (mkF m 8 #[.val (.ref a1), .val (.double (own_U uu)), .second, .val (.int (1 : Int32)), .val (.double (own_D ((0 + m0) + m1))), .second, .val (.int (4 : Int32))] [])) _
                refine XS.iload X0.here hx rfl (hb hby d1_8) rfl ?_
                show Steps p.tables e below (s₁.setTop (mkF m 10 #[.val (.ref a1), .val (.double (own_U uu)), .second, .val (.int (1 : Int32)), .val (.double (own_D ((0 + m0) + m1))), .second, .val (.int (4 : Int32))] [(.int (4 : Int32))])) _
                refine XS.aloadN X0.here hx rfl (hb hby d1_10) rfl rfl ?_
                show Steps p.tables e below (s₁.setTop (mkF m 11 #[.val (.ref a1), .val (.double (own_U uu)), .second, .val (.int (1 : Int32)), .val (.double (own_D ((0 + m0) + m1))), .second, .val (.int (4 : Int32))] [(.ref a1), (.int (4 : Int32))])) _
                refine X0.arraylength hx (by first | exact Ar11_29.1 | (rw [e0]; exact Ar11_29.1)) (State.isArrayOf_alike hZ.alike Ar11_29.2.1) (g := (mkF m 11 #[.val (.ref a1), .val (.double (own_U uu)), .second, .val (.int (1 : Int32)), .val (.double (own_D ((0 + m0) + m1))), .second, .val (.int (4 : Int32))] [(.ref a1), (.int (4 : Int32))])) rfl rfl (hb hby d1_11) _ ?_
                rw [len_of Sa11_29 Na11_29]
                show Steps p.tables e below (s₁.setTop (mkF m 12 #[.val (.ref a1), .val (.double (own_U uu)), .second, .val (.int (1 : Int32)), .val (.double (own_D ((0 + m0) + m1))), .second, .val (.int (4 : Int32))] [(.int (4 : Int32)), (.int (4 : Int32))])) _
                refine XS.icmpYes X0.here hx rfl (pc0 := 12) (pc' := 52) rfl (hb hby d1_12) rfl (flt (by decide)).2.1 (by decide) (by decide) ?_
                show Steps p.tables e below (s₁.setTop (mkF m 52 #[.val (.ref a1), .val (.double (own_U uu)), .second, .val (.int (1 : Int32)), .val (.double (own_D ((0 + m0) + m1))), .second, .val (.int (4 : Int32))] [])) _
                refine XS.iloadN X0.here hx rfl (hb hby d1_52) rfl ?_
                show Steps p.tables e below (s₁.setTop (mkF m 53 #[.val (.ref a1), .val (.double (own_U uu)), .second, .val (.int (1 : Int32)), .val (.double (own_D ((0 + m0) + m1))), .second, .val (.int (4 : Int32))] [(.int (1 : Int32))])) _
                refine XS.ifYes X0.here hx rfl (pc0 := 53) (pc' := 66) rfl (hb hby d1_53) rfl ((if0 _ _).trans (flt (by decide)).2.1) (by decide) (by decide) ?_
                show Steps p.tables e below (s₁.setTop (mkF m 66 #[.val (.ref a1), .val (.double (own_U uu)), .second, .val (.int (1 : Int32)), .val (.double (own_D ((0 + m0) + m1))), .second, .val (.int (4 : Int32))] [])) _
                refine XS.iloadN X0.here hx rfl (hb hby d1_66) rfl ?_
                show Steps p.tables e below (s₁.setTop (mkF m 67 #[.val (.ref a1), .val (.double (own_U uu)), .second, .val (.int (1 : Int32)), .val (.double (own_D ((0 + m0) + m1))), .second, .val (.int (4 : Int32))] [(.int (1 : Int32))])) _
                exact retI X0 hx Bd.returns (hb hby d1_67) hr
              · show Q1 Z a1 kk m0 m1 m2 m3 uu h0 n0 _ s₁.heap _
                rw [e0]
                have hv : (own_draw m0 m1 m2 m3 uu) = (1 : Int32) := by unfold own_draw; rw [if_pos hc21, if_neg hc40, if_pos hc21_2, if_neg hc40_2, if_neg hc21_3, if_neg hc21_4]
                exact ⟨by rw [hv], N0, rfl⟩
      · have cp11_30 := V0
        obtain ⟨cl11_30, Ar11_30, -, Sa11_30, Na11_30, -, -⟩ := cp11_30
        have cp18_31 := V0
        obtain ⟨cl18_31, Ar18_31, -, Sa18_31, Na18_31, Ha18_31, -⟩ := cp18_31
        have hin18_31 : ¬ ((2 : Int32) < 0 ∨ cl18_31.slots.size ≤ ((2 : Int32)).toNatClampNeg) := inb_of Sa18_31 ⟨by decide, by decide⟩
        have hat18_31 : cl18_31.slots[((2 : Int32)).toNatClampNeg]? = some (.double (own_D m2)) := Ha18_31.at hin18_31 rfl
        have c32 : ∀ t, Steps p.tables e below (s₁.setTop (mkF m 21 #[.val (.ref a1), .val (.double (own_U uu)), .second, .val (.int (0 : Int32)), .val (.double (own_D (0 + m0))), .second, .val (.int (2 : Int32))] [(.int (cmpValue (FP.dcmp (own_D m2) (own_D 0)) .l))])) t → Steps p.tables e below (s₁.setTop (entryFrame m #[(.ref a1), (.double (own_U uu))] 7)) t := fun t kt => by
          refine c8 _ ?_
          show Steps p.tables e below (s₁.setTop (mkF m 21 #[.val (.ref a1), .val (.double (own_U uu)), .second, .val (.int (0 : Int32)), .val (.double (own_D (0 + m0))), .second, .val (.int (1 : Int32))] [(.int (cmpValue (FP.dcmp (own_D m1) (own_D 0)) .l))])) _
          refine XS.ifYes X0.here hx rfl (pc0 := 21) (pc' := 46) rfl (hb hby d1_21) rfl ((if0 _ _).trans (flt (fun q => hc21_2 ((own_gt m1 (by omega)).mp q))).2.2.2) (by decide) (by decide) ?_
          show Steps p.tables e below (s₁.setTop (mkF m 46 #[.val (.ref a1), .val (.double (own_U uu)), .second, .val (.int (0 : Int32)), .val (.double (own_D (0 + m0))), .second, .val (.int (1 : Int32))] [])) _
          refine XS.iinc X0.here hx rfl (hb hby d1_46) rfl (l' := #[.val (.ref a1), .val (.double (own_U uu)), .second, .val (.int (0 : Int32)), .val (.double (own_D (0 + m0))), .second, .val (.int (2 : Int32))]) rfl ?_
          show Steps p.tables e below (s₁.setTop (mkF m 49 #[.val (.ref a1), .val (.double (own_U uu)), .second, .val (.int (0 : Int32)), .val (.double (own_D (0 + m0))), .second, .val (.int (2 : Int32))] [])) _
          refine XS.goto X0.here hx rfl (pc0 := 49) (pc' := 8) rfl (hb hby d1_49) (by decide) (by decide) ?_
          show Steps p.tables e below (s₁.setTop (mkF m 8 #[.val (.ref a1), .val (.double (own_U uu)), .second, .val (.int (0 : Int32)), .val (.double (own_D (0 + m0))), .second, .val (.int (2 : Int32))] [])) _
          refine XS.iload X0.here hx rfl (hb hby d1_8) rfl ?_
          show Steps p.tables e below (s₁.setTop (mkF m 10 #[.val (.ref a1), .val (.double (own_U uu)), .second, .val (.int (0 : Int32)), .val (.double (own_D (0 + m0))), .second, .val (.int (2 : Int32))] [(.int (2 : Int32))])) _
          refine XS.aloadN X0.here hx rfl (hb hby d1_10) rfl rfl ?_
          show Steps p.tables e below (s₁.setTop (mkF m 11 #[.val (.ref a1), .val (.double (own_U uu)), .second, .val (.int (0 : Int32)), .val (.double (own_D (0 + m0))), .second, .val (.int (2 : Int32))] [(.ref a1), (.int (2 : Int32))])) _
          refine X0.arraylength hx (by first | exact Ar11_30.1 | (rw [e0]; exact Ar11_30.1)) (State.isArrayOf_alike hZ.alike Ar11_30.2.1) (g := (mkF m 11 #[.val (.ref a1), .val (.double (own_U uu)), .second, .val (.int (0 : Int32)), .val (.double (own_D (0 + m0))), .second, .val (.int (2 : Int32))] [(.ref a1), (.int (2 : Int32))])) rfl rfl (hb hby d1_11) _ ?_
          rw [len_of Sa11_30 Na11_30]
          show Steps p.tables e below (s₁.setTop (mkF m 12 #[.val (.ref a1), .val (.double (own_U uu)), .second, .val (.int (0 : Int32)), .val (.double (own_D (0 + m0))), .second, .val (.int (2 : Int32))] [(.int (4 : Int32)), (.int (2 : Int32))])) _
          refine XS.icmpNo X0.here hx rfl (hb hby d1_12) rfl (tlt (by decide)).2.1 ?_
          show Steps p.tables e below (s₁.setTop (mkF m 15 #[.val (.ref a1), .val (.double (own_U uu)), .second, .val (.int (0 : Int32)), .val (.double (own_D (0 + m0))), .second, .val (.int (2 : Int32))] [])) _
          refine XS.aloadN X0.here hx rfl (hb hby d1_15) rfl rfl ?_
          show Steps p.tables e below (s₁.setTop (mkF m 16 #[.val (.ref a1), .val (.double (own_U uu)), .second, .val (.int (0 : Int32)), .val (.double (own_D (0 + m0))), .second, .val (.int (2 : Int32))] [(.ref a1)])) _
          refine XS.iload X0.here hx rfl (hb hby d1_16) rfl ?_
          show Steps p.tables e below (s₁.setTop (mkF m 18 #[.val (.ref a1), .val (.double (own_U uu)), .second, .val (.int (0 : Int32)), .val (.double (own_D (0 + m0))), .second, .val (.int (2 : Int32))] [(.int (2 : Int32)), (.ref a1)])) _
          refine X0.daload hx (j := (2 : Int32)) (v := (.double (own_D m2))) (by first | exact Ar18_31.1 | (rw [e0]; exact Ar18_31.1)) (State.isArrayOf_alike hZ.alike Ar18_31.2.1) Ar18_31.2.2 hin18_31 hat18_31 (g := (mkF m 18 #[.val (.ref a1), .val (.double (own_U uu)), .second, .val (.int (0 : Int32)), .val (.double (own_D (0 + m0))), .second, .val (.int (2 : Int32))] [(.int (2 : Int32)), (.ref a1)])) rfl rfl (hb hby d1_18) _ ?_
          show Steps p.tables e below (s₁.setTop (mkF m 19 #[.val (.ref a1), .val (.double (own_U uu)), .second, .val (.int (0 : Int32)), .val (.double (own_D (0 + m0))), .second, .val (.int (2 : Int32))] [(.double (own_D m2))])) _
          refine XS.dconst0 X0.here hx rfl (v := (own_D 0)) (hb hby d1_19) own_D0 ?_
          show Steps p.tables e below (s₁.setTop (mkF m 20 #[.val (.ref a1), .val (.double (own_U uu)), .second, .val (.int (0 : Int32)), .val (.double (own_D (0 + m0))), .second, .val (.int (2 : Int32))] [(.double (own_D 0)), (.double (own_D m2))])) _
          refine XS.dcmpS X0.here hx rfl (hb hby d1_20) rfl rfl ?_
          exact kt
        by_cases hc21_3 : 0 < m2
        · have cp32_33 := V0
          obtain ⟨cl32_33, Ar32_33, -, Sa32_33, Na32_33, Ha32_33, -⟩ := cp32_33
          have hin32_33 : ¬ ((2 : Int32) < 0 ∨ cl32_33.slots.size ≤ ((2 : Int32)).toNatClampNeg) := inb_of Sa32_33 ⟨by decide, by decide⟩
          have hat32_33 : cl32_33.slots[((2 : Int32)).toNatClampNeg]? = some (.double (own_D m2)) := Ha32_33.at hin32_33 rfl
          have c34 : ∀ t, Steps p.tables e below (s₁.setTop (mkF m 40 #[.val (.ref a1), .val (.double (own_U uu)), .second, .val (.int (2 : Int32)), .val (.double (own_D ((0 + m0) + m2))), .second, .val (.int (2 : Int32))] [(.int (cmpValue (FP.dcmp (own_U uu) (own_D ((0 + m0) + m2))) .g))])) t → Steps p.tables e below (s₁.setTop (entryFrame m #[(.ref a1), (.double (own_U uu))] 7)) t := fun t kt => by
            refine c32 _ ?_
            show Steps p.tables e below (s₁.setTop (mkF m 21 #[.val (.ref a1), .val (.double (own_U uu)), .second, .val (.int (0 : Int32)), .val (.double (own_D (0 + m0))), .second, .val (.int (2 : Int32))] [(.int (cmpValue (FP.dcmp (own_D m2) (own_D 0)) .l))])) _
            refine XS.ifNo X0.here hx rfl (hb hby d1_21) rfl ((if0 _ _).trans (tlt ((own_gt m2 (by omega)).mpr hc21_3)).2.2.2) ?_
            show Steps p.tables e below (s₁.setTop (mkF m 24 #[.val (.ref a1), .val (.double (own_U uu)), .second, .val (.int (0 : Int32)), .val (.double (own_D (0 + m0))), .second, .val (.int (2 : Int32))] [])) _
            refine XS.iload X0.here hx rfl (hb hby d1_24) rfl ?_
            show Steps p.tables e below (s₁.setTop (mkF m 26 #[.val (.ref a1), .val (.double (own_U uu)), .second, .val (.int (0 : Int32)), .val (.double (own_D (0 + m0))), .second, .val (.int (2 : Int32))] [(.int (2 : Int32))])) _
            refine XS.istoreN X0.here hx rfl (hb hby d1_26) rfl (l' := #[.val (.ref a1), .val (.double (own_U uu)), .second, .val (.int (2 : Int32)), .val (.double (own_D (0 + m0))), .second, .val (.int (2 : Int32))]) rfl ?_
            show Steps p.tables e below (s₁.setTop (mkF m 27 #[.val (.ref a1), .val (.double (own_U uu)), .second, .val (.int (2 : Int32)), .val (.double (own_D (0 + m0))), .second, .val (.int (2 : Int32))] [])) _
            refine XS.dload X0.here hx rfl (hb hby d1_27) rfl ?_
            show Steps p.tables e below (s₁.setTop (mkF m 29 #[.val (.ref a1), .val (.double (own_U uu)), .second, .val (.int (2 : Int32)), .val (.double (own_D (0 + m0))), .second, .val (.int (2 : Int32))] [(.double (own_D (0 + m0)))])) _
            refine XS.aloadN X0.here hx rfl (hb hby d1_29) rfl rfl ?_
            show Steps p.tables e below (s₁.setTop (mkF m 30 #[.val (.ref a1), .val (.double (own_U uu)), .second, .val (.int (2 : Int32)), .val (.double (own_D (0 + m0))), .second, .val (.int (2 : Int32))] [(.ref a1), (.double (own_D (0 + m0)))])) _
            refine XS.iload X0.here hx rfl (hb hby d1_30) rfl ?_
            show Steps p.tables e below (s₁.setTop (mkF m 32 #[.val (.ref a1), .val (.double (own_U uu)), .second, .val (.int (2 : Int32)), .val (.double (own_D (0 + m0))), .second, .val (.int (2 : Int32))] [(.int (2 : Int32)), (.ref a1), (.double (own_D (0 + m0)))])) _
            refine X0.daload hx (j := (2 : Int32)) (v := (.double (own_D m2))) (by first | exact Ar32_33.1 | (rw [e0]; exact Ar32_33.1)) (State.isArrayOf_alike hZ.alike Ar32_33.2.1) Ar32_33.2.2 hin32_33 hat32_33 (g := (mkF m 32 #[.val (.ref a1), .val (.double (own_U uu)), .second, .val (.int (2 : Int32)), .val (.double (own_D (0 + m0))), .second, .val (.int (2 : Int32))] [(.int (2 : Int32)), (.ref a1), (.double (own_D (0 + m0)))])) rfl rfl (hb hby d1_32) _ ?_
            show Steps p.tables e below (s₁.setTop (mkF m 33 #[.val (.ref a1), .val (.double (own_U uu)), .second, .val (.int (2 : Int32)), .val (.double (own_D (0 + m0))), .second, .val (.int (2 : Int32))] [(.double (own_D m2)), (.double (own_D (0 + m0)))])) _
            refine XS.daddS X0.here hx rfl (hb hby d1_33) rfl (v := (own_D ((0 + m0) + m2))) (own_nan2 _ _ (by omega)) (own_add _ _ (by omega)) ?_
            show Steps p.tables e below (s₁.setTop (mkF m 34 #[.val (.ref a1), .val (.double (own_U uu)), .second, .val (.int (2 : Int32)), .val (.double (own_D (0 + m0))), .second, .val (.int (2 : Int32))] [(.double (own_D ((0 + m0) + m2)))])) _
            refine XS.dstore X0.here hx rfl (hb hby d1_34) rfl (l' := #[.val (.ref a1), .val (.double (own_U uu)), .second, .val (.int (2 : Int32)), .val (.double (own_D ((0 + m0) + m2))), .second, .val (.int (2 : Int32))]) rfl ?_
            show Steps p.tables e below (s₁.setTop (mkF m 36 #[.val (.ref a1), .val (.double (own_U uu)), .second, .val (.int (2 : Int32)), .val (.double (own_D ((0 + m0) + m2))), .second, .val (.int (2 : Int32))] [])) _
            refine XS.dloadN X0.here hx rfl (hb hby d1_36) rfl ?_
            show Steps p.tables e below (s₁.setTop (mkF m 37 #[.val (.ref a1), .val (.double (own_U uu)), .second, .val (.int (2 : Int32)), .val (.double (own_D ((0 + m0) + m2))), .second, .val (.int (2 : Int32))] [(.double (own_U uu))])) _
            refine XS.dload X0.here hx rfl (hb hby d1_37) rfl ?_
            show Steps p.tables e below (s₁.setTop (mkF m 39 #[.val (.ref a1), .val (.double (own_U uu)), .second, .val (.int (2 : Int32)), .val (.double (own_D ((0 + m0) + m2))), .second, .val (.int (2 : Int32))] [(.double (own_D ((0 + m0) + m2))), (.double (own_U uu))])) _
            refine XS.dcmpS X0.here hx rfl (hb hby d1_39) rfl rfl ?_
            exact kt
          by_cases hc40_2 : uu < 16 * ((0 + m0) + m2)
          · obtain ⟨fs, hr, hrun, hended, hW, hsame⟩ := X0.leave (v := some (.int (2 : Int32))) (fun h => by rw [Bd.returns] at h; cases h)
            refine ⟨_, _, c34 _ ?_, hrun, hended, _, _, rfl, ?_, ⟨_, rfl⟩, hW, hsame.mono (by decide) (by decide)⟩
            · show Steps p.tables e below (s₁.setTop (mkF m 40 #[.val (.ref a1), .val (.double (own_U uu)), .second, .val (.int (2 : Int32)), .val (.double (own_D ((0 + m0) + m2))), .second, .val (.int (2 : Int32))] [(.int (cmpValue (FP.dcmp (own_U uu) (own_D ((0 + m0) + m2))) .g))])) _
              refine XS.ifNo X0.here hx rfl (hb hby d1_40) rfl ((if0 _ _).trans (tlt ((own_lt uu ((0 + m0) + m2) hu (by omega)).mpr hc40_2)).2.1) ?_
              show Steps p.tables e below (s₁.setTop (mkF m 43 #[.val (.ref a1), .val (.double (own_U uu)), .second, .val (.int (2 : Int32)), .val (.double (own_D ((0 + m0) + m2))), .second, .val (.int (2 : Int32))] [])) _
              refine XS.goto X0.here hx rfl (pc0 := 43) (pc' := 52) rfl (hb hby d1_43) (by decide) (by decide) ?_
              show Steps p.tables e below (s₁.setTop (mkF m 52 #[.val (.ref a1), .val (.double (own_U uu)), .second, .val (.int (2 : Int32)), .val (.double (own_D ((0 + m0) + m2))), .second, .val (.int (2 : Int32))] [])) _
              refine XS.iloadN X0.here hx rfl (hb hby d1_52) rfl ?_
              show Steps p.tables e below (s₁.setTop (mkF m 53 #[.val (.ref a1), .val (.double (own_U uu)), .second, .val (.int (2 : Int32)), .val (.double (own_D ((0 + m0) + m2))), .second, .val (.int (2 : Int32))] [(.int (2 : Int32))])) _
              refine XS.ifYes X0.here hx rfl (pc0 := 53) (pc' := 66) rfl (hb hby d1_53) rfl ((if0 _ _).trans (flt (by decide)).2.1) (by decide) (by decide) ?_
              show Steps p.tables e below (s₁.setTop (mkF m 66 #[.val (.ref a1), .val (.double (own_U uu)), .second, .val (.int (2 : Int32)), .val (.double (own_D ((0 + m0) + m2))), .second, .val (.int (2 : Int32))] [])) _
              refine XS.iloadN X0.here hx rfl (hb hby d1_66) rfl ?_
              show Steps p.tables e below (s₁.setTop (mkF m 67 #[.val (.ref a1), .val (.double (own_U uu)), .second, .val (.int (2 : Int32)), .val (.double (own_D ((0 + m0) + m2))), .second, .val (.int (2 : Int32))] [(.int (2 : Int32))])) _
              exact retI X0 hx Bd.returns (hb hby d1_67) hr
            · show Q1 Z a1 kk m0 m1 m2 m3 uu h0 n0 _ s₁.heap _
              rw [e0]
              have hv : (own_draw m0 m1 m2 m3 uu) = (2 : Int32) := by unfold own_draw; rw [if_pos hc21, if_neg hc40, if_neg hc21_2, if_pos hc21_3, if_pos hc40_2]
              exact ⟨by rw [hv], N0, rfl⟩
          · have cp11_35 := V0
            obtain ⟨cl11_35, Ar11_35, -, Sa11_35, Na11_35, -, -⟩ := cp11_35
            have cp18_36 := V0
            obtain ⟨cl18_36, Ar18_36, -, Sa18_36, Na18_36, Ha18_36, -⟩ := cp18_36
            have hin18_36 : ¬ ((3 : Int32) < 0 ∨ cl18_36.slots.size ≤ ((3 : Int32)).toNatClampNeg) := inb_of Sa18_36 ⟨by decide, by decide⟩
            have hat18_36 : cl18_36.slots[((3 : Int32)).toNatClampNeg]? = some (.double (own_D m3)) := Ha18_36.at hin18_36 rfl
            have c37 : ∀ t, Steps p.tables e below (s₁.setTop (mkF m 21 #[.val (.ref a1), .val (.double (own_U uu)), .second, .val (.int (2 : Int32)), .val (.double (own_D ((0 + m0) + m2))), .second, .val (.int (3 : Int32))] [(.int (cmpValue (FP.dcmp (own_D m3) (own_D 0)) .l))])) t → Steps p.tables e below (s₁.setTop (entryFrame m #[(.ref a1), (.double (own_U uu))] 7)) t := fun t kt => by
              refine c34 _ ?_
              show Steps p.tables e below (s₁.setTop (mkF m 40 #[.val (.ref a1), .val (.double (own_U uu)), .second, .val (.int (2 : Int32)), .val (.double (own_D ((0 + m0) + m2))), .second, .val (.int (2 : Int32))] [(.int (cmpValue (FP.dcmp (own_U uu) (own_D ((0 + m0) + m2))) .g))])) _
              refine XS.ifYes X0.here hx rfl (pc0 := 40) (pc' := 46) rfl (hb hby d1_40) rfl ((if0 _ _).trans (flt (fun q => hc40_2 ((own_lt uu ((0 + m0) + m2) hu (by omega)).mp q))).2.1) (by decide) (by decide) ?_
              show Steps p.tables e below (s₁.setTop (mkF m 46 #[.val (.ref a1), .val (.double (own_U uu)), .second, .val (.int (2 : Int32)), .val (.double (own_D ((0 + m0) + m2))), .second, .val (.int (2 : Int32))] [])) _
              refine XS.iinc X0.here hx rfl (hb hby d1_46) rfl (l' := #[.val (.ref a1), .val (.double (own_U uu)), .second, .val (.int (2 : Int32)), .val (.double (own_D ((0 + m0) + m2))), .second, .val (.int (3 : Int32))]) rfl ?_
              show Steps p.tables e below (s₁.setTop (mkF m 49 #[.val (.ref a1), .val (.double (own_U uu)), .second, .val (.int (2 : Int32)), .val (.double (own_D ((0 + m0) + m2))), .second, .val (.int (3 : Int32))] [])) _
              refine XS.goto X0.here hx rfl (pc0 := 49) (pc' := 8) rfl (hb hby d1_49) (by decide) (by decide) ?_
              show Steps p.tables e below (s₁.setTop (mkF m 8 #[.val (.ref a1), .val (.double (own_U uu)), .second, .val (.int (2 : Int32)), .val (.double (own_D ((0 + m0) + m2))), .second, .val (.int (3 : Int32))] [])) _
              refine XS.iload X0.here hx rfl (hb hby d1_8) rfl ?_
              show Steps p.tables e below (s₁.setTop (mkF m 10 #[.val (.ref a1), .val (.double (own_U uu)), .second, .val (.int (2 : Int32)), .val (.double (own_D ((0 + m0) + m2))), .second, .val (.int (3 : Int32))] [(.int (3 : Int32))])) _
              refine XS.aloadN X0.here hx rfl (hb hby d1_10) rfl rfl ?_
              show Steps p.tables e below (s₁.setTop (mkF m 11 #[.val (.ref a1), .val (.double (own_U uu)), .second, .val (.int (2 : Int32)), .val (.double (own_D ((0 + m0) + m2))), .second, .val (.int (3 : Int32))] [(.ref a1), (.int (3 : Int32))])) _
              refine X0.arraylength hx (by first | exact Ar11_35.1 | (rw [e0]; exact Ar11_35.1)) (State.isArrayOf_alike hZ.alike Ar11_35.2.1) (g := (mkF m 11 #[.val (.ref a1), .val (.double (own_U uu)), .second, .val (.int (2 : Int32)), .val (.double (own_D ((0 + m0) + m2))), .second, .val (.int (3 : Int32))] [(.ref a1), (.int (3 : Int32))])) rfl rfl (hb hby d1_11) _ ?_
              rw [len_of Sa11_35 Na11_35]
              show Steps p.tables e below (s₁.setTop (mkF m 12 #[.val (.ref a1), .val (.double (own_U uu)), .second, .val (.int (2 : Int32)), .val (.double (own_D ((0 + m0) + m2))), .second, .val (.int (3 : Int32))] [(.int (4 : Int32)), (.int (3 : Int32))])) _
              refine XS.icmpNo X0.here hx rfl (hb hby d1_12) rfl (tlt (by decide)).2.1 ?_
              show Steps p.tables e below (s₁.setTop (mkF m 15 #[.val (.ref a1), .val (.double (own_U uu)), .second, .val (.int (2 : Int32)), .val (.double (own_D ((0 + m0) + m2))), .second, .val (.int (3 : Int32))] [])) _
              refine XS.aloadN X0.here hx rfl (hb hby d1_15) rfl rfl ?_
              show Steps p.tables e below (s₁.setTop (mkF m 16 #[.val (.ref a1), .val (.double (own_U uu)), .second, .val (.int (2 : Int32)), .val (.double (own_D ((0 + m0) + m2))), .second, .val (.int (3 : Int32))] [(.ref a1)])) _
              refine XS.iload X0.here hx rfl (hb hby d1_16) rfl ?_
              show Steps p.tables e below (s₁.setTop (mkF m 18 #[.val (.ref a1), .val (.double (own_U uu)), .second, .val (.int (2 : Int32)), .val (.double (own_D ((0 + m0) + m2))), .second, .val (.int (3 : Int32))] [(.int (3 : Int32)), (.ref a1)])) _
              refine X0.daload hx (j := (3 : Int32)) (v := (.double (own_D m3))) (by first | exact Ar18_36.1 | (rw [e0]; exact Ar18_36.1)) (State.isArrayOf_alike hZ.alike Ar18_36.2.1) Ar18_36.2.2 hin18_36 hat18_36 (g := (mkF m 18 #[.val (.ref a1), .val (.double (own_U uu)), .second, .val (.int (2 : Int32)), .val (.double (own_D ((0 + m0) + m2))), .second, .val (.int (3 : Int32))] [(.int (3 : Int32)), (.ref a1)])) rfl rfl (hb hby d1_18) _ ?_
              show Steps p.tables e below (s₁.setTop (mkF m 19 #[.val (.ref a1), .val (.double (own_U uu)), .second, .val (.int (2 : Int32)), .val (.double (own_D ((0 + m0) + m2))), .second, .val (.int (3 : Int32))] [(.double (own_D m3))])) _
              refine XS.dconst0 X0.here hx rfl (v := (own_D 0)) (hb hby d1_19) own_D0 ?_
              show Steps p.tables e below (s₁.setTop (mkF m 20 #[.val (.ref a1), .val (.double (own_U uu)), .second, .val (.int (2 : Int32)), .val (.double (own_D ((0 + m0) + m2))), .second, .val (.int (3 : Int32))] [(.double (own_D 0)), (.double (own_D m3))])) _
              refine XS.dcmpS X0.here hx rfl (hb hby d1_20) rfl rfl ?_
              exact kt
            by_cases hc21_4 : 0 < m3
            · have cp32_38 := V0
              obtain ⟨cl32_38, Ar32_38, -, Sa32_38, Na32_38, Ha32_38, -⟩ := cp32_38
              have hin32_38 : ¬ ((3 : Int32) < 0 ∨ cl32_38.slots.size ≤ ((3 : Int32)).toNatClampNeg) := inb_of Sa32_38 ⟨by decide, by decide⟩
              have hat32_38 : cl32_38.slots[((3 : Int32)).toNatClampNeg]? = some (.double (own_D m3)) := Ha32_38.at hin32_38 rfl
              have c39 : ∀ t, Steps p.tables e below (s₁.setTop (mkF m 40 #[.val (.ref a1), .val (.double (own_U uu)), .second, .val (.int (3 : Int32)), .val (.double (own_D (((0 + m0) + m2) + m3))), .second, .val (.int (3 : Int32))] [(.int (cmpValue (FP.dcmp (own_U uu) (own_D (((0 + m0) + m2) + m3))) .g))])) t → Steps p.tables e below (s₁.setTop (entryFrame m #[(.ref a1), (.double (own_U uu))] 7)) t := fun t kt => by
                refine c37 _ ?_
                show Steps p.tables e below (s₁.setTop (mkF m 21 #[.val (.ref a1), .val (.double (own_U uu)), .second, .val (.int (2 : Int32)), .val (.double (own_D ((0 + m0) + m2))), .second, .val (.int (3 : Int32))] [(.int (cmpValue (FP.dcmp (own_D m3) (own_D 0)) .l))])) _
                refine XS.ifNo X0.here hx rfl (hb hby d1_21) rfl ((if0 _ _).trans (tlt ((own_gt m3 (by omega)).mpr hc21_4)).2.2.2) ?_
                show Steps p.tables e below (s₁.setTop (mkF m 24 #[.val (.ref a1), .val (.double (own_U uu)), .second, .val (.int (2 : Int32)), .val (.double (own_D ((0 + m0) + m2))), .second, .val (.int (3 : Int32))] [])) _
                refine XS.iload X0.here hx rfl (hb hby d1_24) rfl ?_
                show Steps p.tables e below (s₁.setTop (mkF m 26 #[.val (.ref a1), .val (.double (own_U uu)), .second, .val (.int (2 : Int32)), .val (.double (own_D ((0 + m0) + m2))), .second, .val (.int (3 : Int32))] [(.int (3 : Int32))])) _
                refine XS.istoreN X0.here hx rfl (hb hby d1_26) rfl (l' := #[.val (.ref a1), .val (.double (own_U uu)), .second, .val (.int (3 : Int32)), .val (.double (own_D ((0 + m0) + m2))), .second, .val (.int (3 : Int32))]) rfl ?_
                show Steps p.tables e below (s₁.setTop (mkF m 27 #[.val (.ref a1), .val (.double (own_U uu)), .second, .val (.int (3 : Int32)), .val (.double (own_D ((0 + m0) + m2))), .second, .val (.int (3 : Int32))] [])) _
                refine XS.dload X0.here hx rfl (hb hby d1_27) rfl ?_
                show Steps p.tables e below (s₁.setTop (mkF m 29 #[.val (.ref a1), .val (.double (own_U uu)), .second, .val (.int (3 : Int32)), .val (.double (own_D ((0 + m0) + m2))), .second, .val (.int (3 : Int32))] [(.double (own_D ((0 + m0) + m2)))])) _
                refine XS.aloadN X0.here hx rfl (hb hby d1_29) rfl rfl ?_
                show Steps p.tables e below (s₁.setTop (mkF m 30 #[.val (.ref a1), .val (.double (own_U uu)), .second, .val (.int (3 : Int32)), .val (.double (own_D ((0 + m0) + m2))), .second, .val (.int (3 : Int32))] [(.ref a1), (.double (own_D ((0 + m0) + m2)))])) _
                refine XS.iload X0.here hx rfl (hb hby d1_30) rfl ?_
                show Steps p.tables e below (s₁.setTop (mkF m 32 #[.val (.ref a1), .val (.double (own_U uu)), .second, .val (.int (3 : Int32)), .val (.double (own_D ((0 + m0) + m2))), .second, .val (.int (3 : Int32))] [(.int (3 : Int32)), (.ref a1), (.double (own_D ((0 + m0) + m2)))])) _
                refine X0.daload hx (j := (3 : Int32)) (v := (.double (own_D m3))) (by first | exact Ar32_38.1 | (rw [e0]; exact Ar32_38.1)) (State.isArrayOf_alike hZ.alike Ar32_38.2.1) Ar32_38.2.2 hin32_38 hat32_38 (g := (mkF m 32 #[.val (.ref a1), .val (.double (own_U uu)), .second, .val (.int (3 : Int32)), .val (.double (own_D ((0 + m0) + m2))), .second, .val (.int (3 : Int32))] [(.int (3 : Int32)), (.ref a1), (.double (own_D ((0 + m0) + m2)))])) rfl rfl (hb hby d1_32) _ ?_
                show Steps p.tables e below (s₁.setTop (mkF m 33 #[.val (.ref a1), .val (.double (own_U uu)), .second, .val (.int (3 : Int32)), .val (.double (own_D ((0 + m0) + m2))), .second, .val (.int (3 : Int32))] [(.double (own_D m3)), (.double (own_D ((0 + m0) + m2)))])) _
                refine XS.daddS X0.here hx rfl (hb hby d1_33) rfl (v := (own_D (((0 + m0) + m2) + m3))) (own_nan2 _ _ (by omega)) (own_add _ _ (by omega)) ?_
                show Steps p.tables e below (s₁.setTop (mkF m 34 #[.val (.ref a1), .val (.double (own_U uu)), .second, .val (.int (3 : Int32)), .val (.double (own_D ((0 + m0) + m2))), .second, .val (.int (3 : Int32))] [(.double (own_D (((0 + m0) + m2) + m3)))])) _
                refine XS.dstore X0.here hx rfl (hb hby d1_34) rfl (l' := #[.val (.ref a1), .val (.double (own_U uu)), .second, .val (.int (3 : Int32)), .val (.double (own_D (((0 + m0) + m2) + m3))), .second, .val (.int (3 : Int32))]) rfl ?_
                show Steps p.tables e below (s₁.setTop (mkF m 36 #[.val (.ref a1), .val (.double (own_U uu)), .second, .val (.int (3 : Int32)), .val (.double (own_D (((0 + m0) + m2) + m3))), .second, .val (.int (3 : Int32))] [])) _
                refine XS.dloadN X0.here hx rfl (hb hby d1_36) rfl ?_
                show Steps p.tables e below (s₁.setTop (mkF m 37 #[.val (.ref a1), .val (.double (own_U uu)), .second, .val (.int (3 : Int32)), .val (.double (own_D (((0 + m0) + m2) + m3))), .second, .val (.int (3 : Int32))] [(.double (own_U uu))])) _
                refine XS.dload X0.here hx rfl (hb hby d1_37) rfl ?_
                show Steps p.tables e below (s₁.setTop (mkF m 39 #[.val (.ref a1), .val (.double (own_U uu)), .second, .val (.int (3 : Int32)), .val (.double (own_D (((0 + m0) + m2) + m3))), .second, .val (.int (3 : Int32))] [(.double (own_D (((0 + m0) + m2) + m3))), (.double (own_U uu))])) _
                refine XS.dcmpS X0.here hx rfl (hb hby d1_39) rfl rfl ?_
                exact kt
              by_cases hc40_3 : uu < 16 * (((0 + m0) + m2) + m3)
              · obtain ⟨fs, hr, hrun, hended, hW, hsame⟩ := X0.leave (v := some (.int (3 : Int32))) (fun h => by rw [Bd.returns] at h; cases h)
                refine ⟨_, _, c39 _ ?_, hrun, hended, _, _, rfl, ?_, ⟨_, rfl⟩, hW, hsame.mono (by decide) (by decide)⟩
                · show Steps p.tables e below (s₁.setTop (mkF m 40 #[.val (.ref a1), .val (.double (own_U uu)), .second, .val (.int (3 : Int32)), .val (.double (own_D (((0 + m0) + m2) + m3))), .second, .val (.int (3 : Int32))] [(.int (cmpValue (FP.dcmp (own_U uu) (own_D (((0 + m0) + m2) + m3))) .g))])) _
                  refine XS.ifNo X0.here hx rfl (hb hby d1_40) rfl ((if0 _ _).trans (tlt ((own_lt uu (((0 + m0) + m2) + m3) hu (by omega)).mpr hc40_3)).2.1) ?_
                  show Steps p.tables e below (s₁.setTop (mkF m 43 #[.val (.ref a1), .val (.double (own_U uu)), .second, .val (.int (3 : Int32)), .val (.double (own_D (((0 + m0) + m2) + m3))), .second, .val (.int (3 : Int32))] [])) _
                  refine XS.goto X0.here hx rfl (pc0 := 43) (pc' := 52) rfl (hb hby d1_43) (by decide) (by decide) ?_
                  show Steps p.tables e below (s₁.setTop (mkF m 52 #[.val (.ref a1), .val (.double (own_U uu)), .second, .val (.int (3 : Int32)), .val (.double (own_D (((0 + m0) + m2) + m3))), .second, .val (.int (3 : Int32))] [])) _
                  refine XS.iloadN X0.here hx rfl (hb hby d1_52) rfl ?_
                  show Steps p.tables e below (s₁.setTop (mkF m 53 #[.val (.ref a1), .val (.double (own_U uu)), .second, .val (.int (3 : Int32)), .val (.double (own_D (((0 + m0) + m2) + m3))), .second, .val (.int (3 : Int32))] [(.int (3 : Int32))])) _
                  refine XS.ifYes X0.here hx rfl (pc0 := 53) (pc' := 66) rfl (hb hby d1_53) rfl ((if0 _ _).trans (flt (by decide)).2.1) (by decide) (by decide) ?_
                  show Steps p.tables e below (s₁.setTop (mkF m 66 #[.val (.ref a1), .val (.double (own_U uu)), .second, .val (.int (3 : Int32)), .val (.double (own_D (((0 + m0) + m2) + m3))), .second, .val (.int (3 : Int32))] [])) _
                  refine XS.iloadN X0.here hx rfl (hb hby d1_66) rfl ?_
                  show Steps p.tables e below (s₁.setTop (mkF m 67 #[.val (.ref a1), .val (.double (own_U uu)), .second, .val (.int (3 : Int32)), .val (.double (own_D (((0 + m0) + m2) + m3))), .second, .val (.int (3 : Int32))] [(.int (3 : Int32))])) _
                  exact retI X0 hx Bd.returns (hb hby d1_67) hr
                · show Q1 Z a1 kk m0 m1 m2 m3 uu h0 n0 _ s₁.heap _
                  rw [e0]
                  have hv : (own_draw m0 m1 m2 m3 uu) = (3 : Int32) := by unfold own_draw; rw [if_pos hc21, if_neg hc40, if_neg hc21_2, if_pos hc21_3, if_neg hc40_2, if_pos hc21_4]
                  exact ⟨by rw [hv], N0, rfl⟩
              · have cp11_40 := V0
                obtain ⟨cl11_40, Ar11_40, -, Sa11_40, Na11_40, -, -⟩ := cp11_40
                obtain ⟨fs, hr, hrun, hended, hW, hsame⟩ := X0.leave (v := some (.int (3 : Int32))) (fun h => by rw [Bd.returns] at h; cases h)
                refine ⟨_, _, c39 _ ?_, hrun, hended, _, _, rfl, ?_, ⟨_, rfl⟩, hW, hsame.mono (by decide) (by decide)⟩
                · show Steps p.tables e below (s₁.setTop (mkF m 40 #[.val (.ref a1), .val (.double (own_U uu)), .second, .val (.int (3 : Int32)), .val (.double (own_D (((0 + m0) + m2) + m3))), .second, .val (.int (3 : Int32))] [(.int (cmpValue (FP.dcmp (own_U uu) (own_D (((0 + m0) + m2) + m3))) .g))])) _
                  refine XS.ifYes X0.here hx rfl (pc0 := 40) (pc' := 46) rfl (hb hby d1_40) rfl ((if0 _ _).trans (flt (fun q => hc40_3 ((own_lt uu (((0 + m0) + m2) + m3) hu (by omega)).mp q))).2.1) (by decide) (by decide) ?_
                  show Steps p.tables e below (s₁.setTop (mkF m 46 #[.val (.ref a1), .val (.double (own_U uu)), .second, .val (.int (3 : Int32)), .val (.double (own_D (((0 + m0) + m2) + m3))), .second, .val (.int (3 : Int32))] [])) _
                  refine XS.iinc X0.here hx rfl (hb hby d1_46) rfl (l' := #[.val (.ref a1), .val (.double (own_U uu)), .second, .val (.int (3 : Int32)), .val (.double (own_D (((0 + m0) + m2) + m3))), .second, .val (.int (4 : Int32))]) rfl ?_
                  show Steps p.tables e below (s₁.setTop (mkF m 49 #[.val (.ref a1), .val (.double (own_U uu)), .second, .val (.int (3 : Int32)), .val (.double (own_D (((0 + m0) + m2) + m3))), .second, .val (.int (4 : Int32))] [])) _
                  refine XS.goto X0.here hx rfl (pc0 := 49) (pc' := 8) rfl (hb hby d1_49) (by decide) (by decide) ?_
                  show Steps p.tables e below (s₁.setTop (mkF m 8 #[.val (.ref a1), .val (.double (own_U uu)), .second, .val (.int (3 : Int32)), .val (.double (own_D (((0 + m0) + m2) + m3))), .second, .val (.int (4 : Int32))] [])) _
                  refine XS.iload X0.here hx rfl (hb hby d1_8) rfl ?_
                  show Steps p.tables e below (s₁.setTop (mkF m 10 #[.val (.ref a1), .val (.double (own_U uu)), .second, .val (.int (3 : Int32)), .val (.double (own_D (((0 + m0) + m2) + m3))), .second, .val (.int (4 : Int32))] [(.int (4 : Int32))])) _
                  refine XS.aloadN X0.here hx rfl (hb hby d1_10) rfl rfl ?_
                  show Steps p.tables e below (s₁.setTop (mkF m 11 #[.val (.ref a1), .val (.double (own_U uu)), .second, .val (.int (3 : Int32)), .val (.double (own_D (((0 + m0) + m2) + m3))), .second, .val (.int (4 : Int32))] [(.ref a1), (.int (4 : Int32))])) _
                  refine X0.arraylength hx (by first | exact Ar11_40.1 | (rw [e0]; exact Ar11_40.1)) (State.isArrayOf_alike hZ.alike Ar11_40.2.1) (g := (mkF m 11 #[.val (.ref a1), .val (.double (own_U uu)), .second, .val (.int (3 : Int32)), .val (.double (own_D (((0 + m0) + m2) + m3))), .second, .val (.int (4 : Int32))] [(.ref a1), (.int (4 : Int32))])) rfl rfl (hb hby d1_11) _ ?_
                  rw [len_of Sa11_40 Na11_40]
                  show Steps p.tables e below (s₁.setTop (mkF m 12 #[.val (.ref a1), .val (.double (own_U uu)), .second, .val (.int (3 : Int32)), .val (.double (own_D (((0 + m0) + m2) + m3))), .second, .val (.int (4 : Int32))] [(.int (4 : Int32)), (.int (4 : Int32))])) _
                  refine XS.icmpYes X0.here hx rfl (pc0 := 12) (pc' := 52) rfl (hb hby d1_12) rfl (flt (by decide)).2.1 (by decide) (by decide) ?_
                  show Steps p.tables e below (s₁.setTop (mkF m 52 #[.val (.ref a1), .val (.double (own_U uu)), .second, .val (.int (3 : Int32)), .val (.double (own_D (((0 + m0) + m2) + m3))), .second, .val (.int (4 : Int32))] [])) _
                  refine XS.iloadN X0.here hx rfl (hb hby d1_52) rfl ?_
                  show Steps p.tables e below (s₁.setTop (mkF m 53 #[.val (.ref a1), .val (.double (own_U uu)), .second, .val (.int (3 : Int32)), .val (.double (own_D (((0 + m0) + m2) + m3))), .second, .val (.int (4 : Int32))] [(.int (3 : Int32))])) _
                  refine XS.ifYes X0.here hx rfl (pc0 := 53) (pc' := 66) rfl (hb hby d1_53) rfl ((if0 _ _).trans (flt (by decide)).2.1) (by decide) (by decide) ?_
                  show Steps p.tables e below (s₁.setTop (mkF m 66 #[.val (.ref a1), .val (.double (own_U uu)), .second, .val (.int (3 : Int32)), .val (.double (own_D (((0 + m0) + m2) + m3))), .second, .val (.int (4 : Int32))] [])) _
                  refine XS.iloadN X0.here hx rfl (hb hby d1_66) rfl ?_
                  show Steps p.tables e below (s₁.setTop (mkF m 67 #[.val (.ref a1), .val (.double (own_U uu)), .second, .val (.int (3 : Int32)), .val (.double (own_D (((0 + m0) + m2) + m3))), .second, .val (.int (4 : Int32))] [(.int (3 : Int32))])) _
                  exact retI X0 hx Bd.returns (hb hby d1_67) hr
                · show Q1 Z a1 kk m0 m1 m2 m3 uu h0 n0 _ s₁.heap _
                  rw [e0]
                  have hv : (own_draw m0 m1 m2 m3 uu) = (3 : Int32) := by unfold own_draw; rw [if_pos hc21, if_neg hc40, if_neg hc21_2, if_pos hc21_3, if_neg hc40_2, if_pos hc21_4]
                  exact ⟨by rw [hv], N0, rfl⟩
            · have cp11_41 := V0
              obtain ⟨cl11_41, Ar11_41, -, Sa11_41, Na11_41, -, -⟩ := cp11_41
              obtain ⟨fs, hr, hrun, hended, hW, hsame⟩ := X0.leave (v := some (.int (2 : Int32))) (fun h => by rw [Bd.returns] at h; cases h)
              refine ⟨_, _, c37 _ ?_, hrun, hended, _, _, rfl, ?_, ⟨_, rfl⟩, hW, hsame.mono (by decide) (by decide)⟩
              · show Steps p.tables e below (s₁.setTop (mkF m 21 #[.val (.ref a1), .val (.double (own_U uu)), .second, .val (.int (2 : Int32)), .val (.double (own_D ((0 + m0) + m2))), .second, .val (.int (3 : Int32))] [(.int (cmpValue (FP.dcmp (own_D m3) (own_D 0)) .l))])) _
                refine XS.ifYes X0.here hx rfl (pc0 := 21) (pc' := 46) rfl (hb hby d1_21) rfl ((if0 _ _).trans (flt (fun q => hc21_4 ((own_gt m3 (by omega)).mp q))).2.2.2) (by decide) (by decide) ?_
                show Steps p.tables e below (s₁.setTop (mkF m 46 #[.val (.ref a1), .val (.double (own_U uu)), .second, .val (.int (2 : Int32)), .val (.double (own_D ((0 + m0) + m2))), .second, .val (.int (3 : Int32))] [])) _
                refine XS.iinc X0.here hx rfl (hb hby d1_46) rfl (l' := #[.val (.ref a1), .val (.double (own_U uu)), .second, .val (.int (2 : Int32)), .val (.double (own_D ((0 + m0) + m2))), .second, .val (.int (4 : Int32))]) rfl ?_
                show Steps p.tables e below (s₁.setTop (mkF m 49 #[.val (.ref a1), .val (.double (own_U uu)), .second, .val (.int (2 : Int32)), .val (.double (own_D ((0 + m0) + m2))), .second, .val (.int (4 : Int32))] [])) _
                refine XS.goto X0.here hx rfl (pc0 := 49) (pc' := 8) rfl (hb hby d1_49) (by decide) (by decide) ?_
                show Steps p.tables e below (s₁.setTop (mkF m 8 #[.val (.ref a1), .val (.double (own_U uu)), .second, .val (.int (2 : Int32)), .val (.double (own_D ((0 + m0) + m2))), .second, .val (.int (4 : Int32))] [])) _
                refine XS.iload X0.here hx rfl (hb hby d1_8) rfl ?_
                show Steps p.tables e below (s₁.setTop (mkF m 10 #[.val (.ref a1), .val (.double (own_U uu)), .second, .val (.int (2 : Int32)), .val (.double (own_D ((0 + m0) + m2))), .second, .val (.int (4 : Int32))] [(.int (4 : Int32))])) _
                refine XS.aloadN X0.here hx rfl (hb hby d1_10) rfl rfl ?_
                show Steps p.tables e below (s₁.setTop (mkF m 11 #[.val (.ref a1), .val (.double (own_U uu)), .second, .val (.int (2 : Int32)), .val (.double (own_D ((0 + m0) + m2))), .second, .val (.int (4 : Int32))] [(.ref a1), (.int (4 : Int32))])) _
                refine X0.arraylength hx (by first | exact Ar11_41.1 | (rw [e0]; exact Ar11_41.1)) (State.isArrayOf_alike hZ.alike Ar11_41.2.1) (g := (mkF m 11 #[.val (.ref a1), .val (.double (own_U uu)), .second, .val (.int (2 : Int32)), .val (.double (own_D ((0 + m0) + m2))), .second, .val (.int (4 : Int32))] [(.ref a1), (.int (4 : Int32))])) rfl rfl (hb hby d1_11) _ ?_
                rw [len_of Sa11_41 Na11_41]
                show Steps p.tables e below (s₁.setTop (mkF m 12 #[.val (.ref a1), .val (.double (own_U uu)), .second, .val (.int (2 : Int32)), .val (.double (own_D ((0 + m0) + m2))), .second, .val (.int (4 : Int32))] [(.int (4 : Int32)), (.int (4 : Int32))])) _
                refine XS.icmpYes X0.here hx rfl (pc0 := 12) (pc' := 52) rfl (hb hby d1_12) rfl (flt (by decide)).2.1 (by decide) (by decide) ?_
                show Steps p.tables e below (s₁.setTop (mkF m 52 #[.val (.ref a1), .val (.double (own_U uu)), .second, .val (.int (2 : Int32)), .val (.double (own_D ((0 + m0) + m2))), .second, .val (.int (4 : Int32))] [])) _
                refine XS.iloadN X0.here hx rfl (hb hby d1_52) rfl ?_
                show Steps p.tables e below (s₁.setTop (mkF m 53 #[.val (.ref a1), .val (.double (own_U uu)), .second, .val (.int (2 : Int32)), .val (.double (own_D ((0 + m0) + m2))), .second, .val (.int (4 : Int32))] [(.int (2 : Int32))])) _
                refine XS.ifYes X0.here hx rfl (pc0 := 53) (pc' := 66) rfl (hb hby d1_53) rfl ((if0 _ _).trans (flt (by decide)).2.1) (by decide) (by decide) ?_
                show Steps p.tables e below (s₁.setTop (mkF m 66 #[.val (.ref a1), .val (.double (own_U uu)), .second, .val (.int (2 : Int32)), .val (.double (own_D ((0 + m0) + m2))), .second, .val (.int (4 : Int32))] [])) _
                refine XS.iloadN X0.here hx rfl (hb hby d1_66) rfl ?_
                show Steps p.tables e below (s₁.setTop (mkF m 67 #[.val (.ref a1), .val (.double (own_U uu)), .second, .val (.int (2 : Int32)), .val (.double (own_D ((0 + m0) + m2))), .second, .val (.int (4 : Int32))] [(.int (2 : Int32))])) _
                exact retI X0 hx Bd.returns (hb hby d1_67) hr
              · show Q1 Z a1 kk m0 m1 m2 m3 uu h0 n0 _ s₁.heap _
                rw [e0]
                have hv : (own_draw m0 m1 m2 m3 uu) = (2 : Int32) := by unfold own_draw; rw [if_pos hc21, if_neg hc40, if_neg hc21_2, if_pos hc21_3, if_neg hc40_2, if_neg hc21_4]
                exact ⟨by rw [hv], N0, rfl⟩
        · have cp11_42 := V0
          obtain ⟨cl11_42, Ar11_42, -, Sa11_42, Na11_42, -, -⟩ := cp11_42
          have cp18_43 := V0
          obtain ⟨cl18_43, Ar18_43, -, Sa18_43, Na18_43, Ha18_43, -⟩ := cp18_43
          have hin18_43 : ¬ ((3 : Int32) < 0 ∨ cl18_43.slots.size ≤ ((3 : Int32)).toNatClampNeg) := inb_of Sa18_43 ⟨by decide, by decide⟩
          have hat18_43 : cl18_43.slots[((3 : Int32)).toNatClampNeg]? = some (.double (own_D m3)) := Ha18_43.at hin18_43 rfl
          have c44 : ∀ t, Steps p.tables e below (s₁.setTop (mkF m 21 #[.val (.ref a1), .val (.double (own_U uu)), .second, .val (.int (0 : Int32)), .val (.double (own_D (0 + m0))), .second, .val (.int (3 : Int32))] [(.int (cmpValue (FP.dcmp (own_D m3) (own_D 0)) .l))])) t → Steps p.tables e below (s₁.setTop (entryFrame m #[(.ref a1), (.double (own_U uu))] 7)) t := fun t kt => by
            refine c32 _ ?_
            show Steps p.tables e below (s₁.setTop (mkF m 21 #[.val (.ref a1), .val (.double (own_U uu)), .second, .val (.int (0 : Int32)), .val (.double (own_D (0 + m0))), .second, .val (.int (2 : Int32))] [(.int (cmpValue (FP.dcmp (own_D m2) (own_D 0)) .l))])) _
            refine XS.ifYes X0.here hx rfl (pc0 := 21) (pc' := 46) rfl (hb hby d1_21) rfl ((if0 _ _).trans (flt (fun q => hc21_3 ((own_gt m2 (by omega)).mp q))).2.2.2) (by decide) (by decide) ?_
            show Steps p.tables e below (s₁.setTop (mkF m 46 #[.val (.ref a1), .val (.double (own_U uu)), .second, .val (.int (0 : Int32)), .val (.double (own_D (0 + m0))), .second, .val (.int (2 : Int32))] [])) _
            refine XS.iinc X0.here hx rfl (hb hby d1_46) rfl (l' := #[.val (.ref a1), .val (.double (own_U uu)), .second, .val (.int (0 : Int32)), .val (.double (own_D (0 + m0))), .second, .val (.int (3 : Int32))]) rfl ?_
            show Steps p.tables e below (s₁.setTop (mkF m 49 #[.val (.ref a1), .val (.double (own_U uu)), .second, .val (.int (0 : Int32)), .val (.double (own_D (0 + m0))), .second, .val (.int (3 : Int32))] [])) _
            refine XS.goto X0.here hx rfl (pc0 := 49) (pc' := 8) rfl (hb hby d1_49) (by decide) (by decide) ?_
            show Steps p.tables e below (s₁.setTop (mkF m 8 #[.val (.ref a1), .val (.double (own_U uu)), .second, .val (.int (0 : Int32)), .val (.double (own_D (0 + m0))), .second, .val (.int (3 : Int32))] [])) _
            refine XS.iload X0.here hx rfl (hb hby d1_8) rfl ?_
            show Steps p.tables e below (s₁.setTop (mkF m 10 #[.val (.ref a1), .val (.double (own_U uu)), .second, .val (.int (0 : Int32)), .val (.double (own_D (0 + m0))), .second, .val (.int (3 : Int32))] [(.int (3 : Int32))])) _
            refine XS.aloadN X0.here hx rfl (hb hby d1_10) rfl rfl ?_
            show Steps p.tables e below (s₁.setTop (mkF m 11 #[.val (.ref a1), .val (.double (own_U uu)), .second, .val (.int (0 : Int32)), .val (.double (own_D (0 + m0))), .second, .val (.int (3 : Int32))] [(.ref a1), (.int (3 : Int32))])) _
            refine X0.arraylength hx (by first | exact Ar11_42.1 | (rw [e0]; exact Ar11_42.1)) (State.isArrayOf_alike hZ.alike Ar11_42.2.1) (g := (mkF m 11 #[.val (.ref a1), .val (.double (own_U uu)), .second, .val (.int (0 : Int32)), .val (.double (own_D (0 + m0))), .second, .val (.int (3 : Int32))] [(.ref a1), (.int (3 : Int32))])) rfl rfl (hb hby d1_11) _ ?_
            rw [len_of Sa11_42 Na11_42]
            show Steps p.tables e below (s₁.setTop (mkF m 12 #[.val (.ref a1), .val (.double (own_U uu)), .second, .val (.int (0 : Int32)), .val (.double (own_D (0 + m0))), .second, .val (.int (3 : Int32))] [(.int (4 : Int32)), (.int (3 : Int32))])) _
            refine XS.icmpNo X0.here hx rfl (hb hby d1_12) rfl (tlt (by decide)).2.1 ?_
            show Steps p.tables e below (s₁.setTop (mkF m 15 #[.val (.ref a1), .val (.double (own_U uu)), .second, .val (.int (0 : Int32)), .val (.double (own_D (0 + m0))), .second, .val (.int (3 : Int32))] [])) _
            refine XS.aloadN X0.here hx rfl (hb hby d1_15) rfl rfl ?_
            show Steps p.tables e below (s₁.setTop (mkF m 16 #[.val (.ref a1), .val (.double (own_U uu)), .second, .val (.int (0 : Int32)), .val (.double (own_D (0 + m0))), .second, .val (.int (3 : Int32))] [(.ref a1)])) _
            refine XS.iload X0.here hx rfl (hb hby d1_16) rfl ?_
            show Steps p.tables e below (s₁.setTop (mkF m 18 #[.val (.ref a1), .val (.double (own_U uu)), .second, .val (.int (0 : Int32)), .val (.double (own_D (0 + m0))), .second, .val (.int (3 : Int32))] [(.int (3 : Int32)), (.ref a1)])) _
            refine X0.daload hx (j := (3 : Int32)) (v := (.double (own_D m3))) (by first | exact Ar18_43.1 | (rw [e0]; exact Ar18_43.1)) (State.isArrayOf_alike hZ.alike Ar18_43.2.1) Ar18_43.2.2 hin18_43 hat18_43 (g := (mkF m 18 #[.val (.ref a1), .val (.double (own_U uu)), .second, .val (.int (0 : Int32)), .val (.double (own_D (0 + m0))), .second, .val (.int (3 : Int32))] [(.int (3 : Int32)), (.ref a1)])) rfl rfl (hb hby d1_18) _ ?_
            show Steps p.tables e below (s₁.setTop (mkF m 19 #[.val (.ref a1), .val (.double (own_U uu)), .second, .val (.int (0 : Int32)), .val (.double (own_D (0 + m0))), .second, .val (.int (3 : Int32))] [(.double (own_D m3))])) _
            refine XS.dconst0 X0.here hx rfl (v := (own_D 0)) (hb hby d1_19) own_D0 ?_
            show Steps p.tables e below (s₁.setTop (mkF m 20 #[.val (.ref a1), .val (.double (own_U uu)), .second, .val (.int (0 : Int32)), .val (.double (own_D (0 + m0))), .second, .val (.int (3 : Int32))] [(.double (own_D 0)), (.double (own_D m3))])) _
            refine XS.dcmpS X0.here hx rfl (hb hby d1_20) rfl rfl ?_
            exact kt
          by_cases hc21_4 : 0 < m3
          · have cp32_45 := V0
            obtain ⟨cl32_45, Ar32_45, -, Sa32_45, Na32_45, Ha32_45, -⟩ := cp32_45
            have hin32_45 : ¬ ((3 : Int32) < 0 ∨ cl32_45.slots.size ≤ ((3 : Int32)).toNatClampNeg) := inb_of Sa32_45 ⟨by decide, by decide⟩
            have hat32_45 : cl32_45.slots[((3 : Int32)).toNatClampNeg]? = some (.double (own_D m3)) := Ha32_45.at hin32_45 rfl
            have c46 : ∀ t, Steps p.tables e below (s₁.setTop (mkF m 40 #[.val (.ref a1), .val (.double (own_U uu)), .second, .val (.int (3 : Int32)), .val (.double (own_D ((0 + m0) + m3))), .second, .val (.int (3 : Int32))] [(.int (cmpValue (FP.dcmp (own_U uu) (own_D ((0 + m0) + m3))) .g))])) t → Steps p.tables e below (s₁.setTop (entryFrame m #[(.ref a1), (.double (own_U uu))] 7)) t := fun t kt => by
              refine c44 _ ?_
              show Steps p.tables e below (s₁.setTop (mkF m 21 #[.val (.ref a1), .val (.double (own_U uu)), .second, .val (.int (0 : Int32)), .val (.double (own_D (0 + m0))), .second, .val (.int (3 : Int32))] [(.int (cmpValue (FP.dcmp (own_D m3) (own_D 0)) .l))])) _
              refine XS.ifNo X0.here hx rfl (hb hby d1_21) rfl ((if0 _ _).trans (tlt ((own_gt m3 (by omega)).mpr hc21_4)).2.2.2) ?_
              show Steps p.tables e below (s₁.setTop (mkF m 24 #[.val (.ref a1), .val (.double (own_U uu)), .second, .val (.int (0 : Int32)), .val (.double (own_D (0 + m0))), .second, .val (.int (3 : Int32))] [])) _
              refine XS.iload X0.here hx rfl (hb hby d1_24) rfl ?_
              show Steps p.tables e below (s₁.setTop (mkF m 26 #[.val (.ref a1), .val (.double (own_U uu)), .second, .val (.int (0 : Int32)), .val (.double (own_D (0 + m0))), .second, .val (.int (3 : Int32))] [(.int (3 : Int32))])) _
              refine XS.istoreN X0.here hx rfl (hb hby d1_26) rfl (l' := #[.val (.ref a1), .val (.double (own_U uu)), .second, .val (.int (3 : Int32)), .val (.double (own_D (0 + m0))), .second, .val (.int (3 : Int32))]) rfl ?_
              show Steps p.tables e below (s₁.setTop (mkF m 27 #[.val (.ref a1), .val (.double (own_U uu)), .second, .val (.int (3 : Int32)), .val (.double (own_D (0 + m0))), .second, .val (.int (3 : Int32))] [])) _
              refine XS.dload X0.here hx rfl (hb hby d1_27) rfl ?_
              show Steps p.tables e below (s₁.setTop (mkF m 29 #[.val (.ref a1), .val (.double (own_U uu)), .second, .val (.int (3 : Int32)), .val (.double (own_D (0 + m0))), .second, .val (.int (3 : Int32))] [(.double (own_D (0 + m0)))])) _
              refine XS.aloadN X0.here hx rfl (hb hby d1_29) rfl rfl ?_
              show Steps p.tables e below (s₁.setTop (mkF m 30 #[.val (.ref a1), .val (.double (own_U uu)), .second, .val (.int (3 : Int32)), .val (.double (own_D (0 + m0))), .second, .val (.int (3 : Int32))] [(.ref a1), (.double (own_D (0 + m0)))])) _
              refine XS.iload X0.here hx rfl (hb hby d1_30) rfl ?_
              show Steps p.tables e below (s₁.setTop (mkF m 32 #[.val (.ref a1), .val (.double (own_U uu)), .second, .val (.int (3 : Int32)), .val (.double (own_D (0 + m0))), .second, .val (.int (3 : Int32))] [(.int (3 : Int32)), (.ref a1), (.double (own_D (0 + m0)))])) _
              refine X0.daload hx (j := (3 : Int32)) (v := (.double (own_D m3))) (by first | exact Ar32_45.1 | (rw [e0]; exact Ar32_45.1)) (State.isArrayOf_alike hZ.alike Ar32_45.2.1) Ar32_45.2.2 hin32_45 hat32_45 (g := (mkF m 32 #[.val (.ref a1), .val (.double (own_U uu)), .second, .val (.int (3 : Int32)), .val (.double (own_D (0 + m0))), .second, .val (.int (3 : Int32))] [(.int (3 : Int32)), (.ref a1), (.double (own_D (0 + m0)))])) rfl rfl (hb hby d1_32) _ ?_
              show Steps p.tables e below (s₁.setTop (mkF m 33 #[.val (.ref a1), .val (.double (own_U uu)), .second, .val (.int (3 : Int32)), .val (.double (own_D (0 + m0))), .second, .val (.int (3 : Int32))] [(.double (own_D m3)), (.double (own_D (0 + m0)))])) _
              refine XS.daddS X0.here hx rfl (hb hby d1_33) rfl (v := (own_D ((0 + m0) + m3))) (own_nan2 _ _ (by omega)) (own_add _ _ (by omega)) ?_
              show Steps p.tables e below (s₁.setTop (mkF m 34 #[.val (.ref a1), .val (.double (own_U uu)), .second, .val (.int (3 : Int32)), .val (.double (own_D (0 + m0))), .second, .val (.int (3 : Int32))] [(.double (own_D ((0 + m0) + m3)))])) _
              refine XS.dstore X0.here hx rfl (hb hby d1_34) rfl (l' := #[.val (.ref a1), .val (.double (own_U uu)), .second, .val (.int (3 : Int32)), .val (.double (own_D ((0 + m0) + m3))), .second, .val (.int (3 : Int32))]) rfl ?_
              show Steps p.tables e below (s₁.setTop (mkF m 36 #[.val (.ref a1), .val (.double (own_U uu)), .second, .val (.int (3 : Int32)), .val (.double (own_D ((0 + m0) + m3))), .second, .val (.int (3 : Int32))] [])) _
              refine XS.dloadN X0.here hx rfl (hb hby d1_36) rfl ?_
              show Steps p.tables e below (s₁.setTop (mkF m 37 #[.val (.ref a1), .val (.double (own_U uu)), .second, .val (.int (3 : Int32)), .val (.double (own_D ((0 + m0) + m3))), .second, .val (.int (3 : Int32))] [(.double (own_U uu))])) _
              refine XS.dload X0.here hx rfl (hb hby d1_37) rfl ?_
              show Steps p.tables e below (s₁.setTop (mkF m 39 #[.val (.ref a1), .val (.double (own_U uu)), .second, .val (.int (3 : Int32)), .val (.double (own_D ((0 + m0) + m3))), .second, .val (.int (3 : Int32))] [(.double (own_D ((0 + m0) + m3))), (.double (own_U uu))])) _
              refine XS.dcmpS X0.here hx rfl (hb hby d1_39) rfl rfl ?_
              exact kt
            by_cases hc40_2 : uu < 16 * ((0 + m0) + m3)
            · obtain ⟨fs, hr, hrun, hended, hW, hsame⟩ := X0.leave (v := some (.int (3 : Int32))) (fun h => by rw [Bd.returns] at h; cases h)
              refine ⟨_, _, c46 _ ?_, hrun, hended, _, _, rfl, ?_, ⟨_, rfl⟩, hW, hsame.mono (by decide) (by decide)⟩
              · show Steps p.tables e below (s₁.setTop (mkF m 40 #[.val (.ref a1), .val (.double (own_U uu)), .second, .val (.int (3 : Int32)), .val (.double (own_D ((0 + m0) + m3))), .second, .val (.int (3 : Int32))] [(.int (cmpValue (FP.dcmp (own_U uu) (own_D ((0 + m0) + m3))) .g))])) _
                refine XS.ifNo X0.here hx rfl (hb hby d1_40) rfl ((if0 _ _).trans (tlt ((own_lt uu ((0 + m0) + m3) hu (by omega)).mpr hc40_2)).2.1) ?_
                show Steps p.tables e below (s₁.setTop (mkF m 43 #[.val (.ref a1), .val (.double (own_U uu)), .second, .val (.int (3 : Int32)), .val (.double (own_D ((0 + m0) + m3))), .second, .val (.int (3 : Int32))] [])) _
                refine XS.goto X0.here hx rfl (pc0 := 43) (pc' := 52) rfl (hb hby d1_43) (by decide) (by decide) ?_
                show Steps p.tables e below (s₁.setTop (mkF m 52 #[.val (.ref a1), .val (.double (own_U uu)), .second, .val (.int (3 : Int32)), .val (.double (own_D ((0 + m0) + m3))), .second, .val (.int (3 : Int32))] [])) _
                refine XS.iloadN X0.here hx rfl (hb hby d1_52) rfl ?_
                show Steps p.tables e below (s₁.setTop (mkF m 53 #[.val (.ref a1), .val (.double (own_U uu)), .second, .val (.int (3 : Int32)), .val (.double (own_D ((0 + m0) + m3))), .second, .val (.int (3 : Int32))] [(.int (3 : Int32))])) _
                refine XS.ifYes X0.here hx rfl (pc0 := 53) (pc' := 66) rfl (hb hby d1_53) rfl ((if0 _ _).trans (flt (by decide)).2.1) (by decide) (by decide) ?_
                show Steps p.tables e below (s₁.setTop (mkF m 66 #[.val (.ref a1), .val (.double (own_U uu)), .second, .val (.int (3 : Int32)), .val (.double (own_D ((0 + m0) + m3))), .second, .val (.int (3 : Int32))] [])) _
                refine XS.iloadN X0.here hx rfl (hb hby d1_66) rfl ?_
                show Steps p.tables e below (s₁.setTop (mkF m 67 #[.val (.ref a1), .val (.double (own_U uu)), .second, .val (.int (3 : Int32)), .val (.double (own_D ((0 + m0) + m3))), .second, .val (.int (3 : Int32))] [(.int (3 : Int32))])) _
                exact retI X0 hx Bd.returns (hb hby d1_67) hr
              · show Q1 Z a1 kk m0 m1 m2 m3 uu h0 n0 _ s₁.heap _
                rw [e0]
                have hv : (own_draw m0 m1 m2 m3 uu) = (3 : Int32) := by unfold own_draw; rw [if_pos hc21, if_neg hc40, if_neg hc21_2, if_neg hc21_3, if_pos hc21_4]
                exact ⟨by rw [hv], N0, rfl⟩
            · have cp11_47 := V0
              obtain ⟨cl11_47, Ar11_47, -, Sa11_47, Na11_47, -, -⟩ := cp11_47
              obtain ⟨fs, hr, hrun, hended, hW, hsame⟩ := X0.leave (v := some (.int (3 : Int32))) (fun h => by rw [Bd.returns] at h; cases h)
              refine ⟨_, _, c46 _ ?_, hrun, hended, _, _, rfl, ?_, ⟨_, rfl⟩, hW, hsame.mono (by decide) (by decide)⟩
              · show Steps p.tables e below (s₁.setTop (mkF m 40 #[.val (.ref a1), .val (.double (own_U uu)), .second, .val (.int (3 : Int32)), .val (.double (own_D ((0 + m0) + m3))), .second, .val (.int (3 : Int32))] [(.int (cmpValue (FP.dcmp (own_U uu) (own_D ((0 + m0) + m3))) .g))])) _
                refine XS.ifYes X0.here hx rfl (pc0 := 40) (pc' := 46) rfl (hb hby d1_40) rfl ((if0 _ _).trans (flt (fun q => hc40_2 ((own_lt uu ((0 + m0) + m3) hu (by omega)).mp q))).2.1) (by decide) (by decide) ?_
                show Steps p.tables e below (s₁.setTop (mkF m 46 #[.val (.ref a1), .val (.double (own_U uu)), .second, .val (.int (3 : Int32)), .val (.double (own_D ((0 + m0) + m3))), .second, .val (.int (3 : Int32))] [])) _
                refine XS.iinc X0.here hx rfl (hb hby d1_46) rfl (l' := #[.val (.ref a1), .val (.double (own_U uu)), .second, .val (.int (3 : Int32)), .val (.double (own_D ((0 + m0) + m3))), .second, .val (.int (4 : Int32))]) rfl ?_
                show Steps p.tables e below (s₁.setTop (mkF m 49 #[.val (.ref a1), .val (.double (own_U uu)), .second, .val (.int (3 : Int32)), .val (.double (own_D ((0 + m0) + m3))), .second, .val (.int (4 : Int32))] [])) _
                refine XS.goto X0.here hx rfl (pc0 := 49) (pc' := 8) rfl (hb hby d1_49) (by decide) (by decide) ?_
                show Steps p.tables e below (s₁.setTop (mkF m 8 #[.val (.ref a1), .val (.double (own_U uu)), .second, .val (.int (3 : Int32)), .val (.double (own_D ((0 + m0) + m3))), .second, .val (.int (4 : Int32))] [])) _
                refine XS.iload X0.here hx rfl (hb hby d1_8) rfl ?_
                show Steps p.tables e below (s₁.setTop (mkF m 10 #[.val (.ref a1), .val (.double (own_U uu)), .second, .val (.int (3 : Int32)), .val (.double (own_D ((0 + m0) + m3))), .second, .val (.int (4 : Int32))] [(.int (4 : Int32))])) _
                refine XS.aloadN X0.here hx rfl (hb hby d1_10) rfl rfl ?_
                show Steps p.tables e below (s₁.setTop (mkF m 11 #[.val (.ref a1), .val (.double (own_U uu)), .second, .val (.int (3 : Int32)), .val (.double (own_D ((0 + m0) + m3))), .second, .val (.int (4 : Int32))] [(.ref a1), (.int (4 : Int32))])) _
                refine X0.arraylength hx (by first | exact Ar11_47.1 | (rw [e0]; exact Ar11_47.1)) (State.isArrayOf_alike hZ.alike Ar11_47.2.1) (g := (mkF m 11 #[.val (.ref a1), .val (.double (own_U uu)), .second, .val (.int (3 : Int32)), .val (.double (own_D ((0 + m0) + m3))), .second, .val (.int (4 : Int32))] [(.ref a1), (.int (4 : Int32))])) rfl rfl (hb hby d1_11) _ ?_
                rw [len_of Sa11_47 Na11_47]
                show Steps p.tables e below (s₁.setTop (mkF m 12 #[.val (.ref a1), .val (.double (own_U uu)), .second, .val (.int (3 : Int32)), .val (.double (own_D ((0 + m0) + m3))), .second, .val (.int (4 : Int32))] [(.int (4 : Int32)), (.int (4 : Int32))])) _
                refine XS.icmpYes X0.here hx rfl (pc0 := 12) (pc' := 52) rfl (hb hby d1_12) rfl (flt (by decide)).2.1 (by decide) (by decide) ?_
                show Steps p.tables e below (s₁.setTop (mkF m 52 #[.val (.ref a1), .val (.double (own_U uu)), .second, .val (.int (3 : Int32)), .val (.double (own_D ((0 + m0) + m3))), .second, .val (.int (4 : Int32))] [])) _
                refine XS.iloadN X0.here hx rfl (hb hby d1_52) rfl ?_
                show Steps p.tables e below (s₁.setTop (mkF m 53 #[.val (.ref a1), .val (.double (own_U uu)), .second, .val (.int (3 : Int32)), .val (.double (own_D ((0 + m0) + m3))), .second, .val (.int (4 : Int32))] [(.int (3 : Int32))])) _
                refine XS.ifYes X0.here hx rfl (pc0 := 53) (pc' := 66) rfl (hb hby d1_53) rfl ((if0 _ _).trans (flt (by decide)).2.1) (by decide) (by decide) ?_
                show Steps p.tables e below (s₁.setTop (mkF m 66 #[.val (.ref a1), .val (.double (own_U uu)), .second, .val (.int (3 : Int32)), .val (.double (own_D ((0 + m0) + m3))), .second, .val (.int (4 : Int32))] [])) _
                refine XS.iloadN X0.here hx rfl (hb hby d1_66) rfl ?_
                show Steps p.tables e below (s₁.setTop (mkF m 67 #[.val (.ref a1), .val (.double (own_U uu)), .second, .val (.int (3 : Int32)), .val (.double (own_D ((0 + m0) + m3))), .second, .val (.int (4 : Int32))] [(.int (3 : Int32))])) _
                exact retI X0 hx Bd.returns (hb hby d1_67) hr
              · show Q1 Z a1 kk m0 m1 m2 m3 uu h0 n0 _ s₁.heap _
                rw [e0]
                have hv : (own_draw m0 m1 m2 m3 uu) = (3 : Int32) := by unfold own_draw; rw [if_pos hc21, if_neg hc40, if_neg hc21_2, if_neg hc21_3, if_pos hc21_4]
                exact ⟨by rw [hv], N0, rfl⟩
          · have cp11_48 := V0
            obtain ⟨cl11_48, Ar11_48, -, Sa11_48, Na11_48, -, -⟩ := cp11_48
            obtain ⟨fs, hr, hrun, hended, hW, hsame⟩ := X0.leave (v := some (.int (0 : Int32))) (fun h => by rw [Bd.returns] at h; cases h)
            refine ⟨_, _, c44 _ ?_, hrun, hended, _, _, rfl, ?_, ⟨_, rfl⟩, hW, hsame.mono (by decide) (by decide)⟩
            · show Steps p.tables e below (s₁.setTop (mkF m 21 #[.val (.ref a1), .val (.double (own_U uu)), .second, .val (.int (0 : Int32)), .val (.double (own_D (0 + m0))), .second, .val (.int (3 : Int32))] [(.int (cmpValue (FP.dcmp (own_D m3) (own_D 0)) .l))])) _
              refine XS.ifYes X0.here hx rfl (pc0 := 21) (pc' := 46) rfl (hb hby d1_21) rfl ((if0 _ _).trans (flt (fun q => hc21_4 ((own_gt m3 (by omega)).mp q))).2.2.2) (by decide) (by decide) ?_
              show Steps p.tables e below (s₁.setTop (mkF m 46 #[.val (.ref a1), .val (.double (own_U uu)), .second, .val (.int (0 : Int32)), .val (.double (own_D (0 + m0))), .second, .val (.int (3 : Int32))] [])) _
              refine XS.iinc X0.here hx rfl (hb hby d1_46) rfl (l' := #[.val (.ref a1), .val (.double (own_U uu)), .second, .val (.int (0 : Int32)), .val (.double (own_D (0 + m0))), .second, .val (.int (4 : Int32))]) rfl ?_
              show Steps p.tables e below (s₁.setTop (mkF m 49 #[.val (.ref a1), .val (.double (own_U uu)), .second, .val (.int (0 : Int32)), .val (.double (own_D (0 + m0))), .second, .val (.int (4 : Int32))] [])) _
              refine XS.goto X0.here hx rfl (pc0 := 49) (pc' := 8) rfl (hb hby d1_49) (by decide) (by decide) ?_
              show Steps p.tables e below (s₁.setTop (mkF m 8 #[.val (.ref a1), .val (.double (own_U uu)), .second, .val (.int (0 : Int32)), .val (.double (own_D (0 + m0))), .second, .val (.int (4 : Int32))] [])) _
              refine XS.iload X0.here hx rfl (hb hby d1_8) rfl ?_
              show Steps p.tables e below (s₁.setTop (mkF m 10 #[.val (.ref a1), .val (.double (own_U uu)), .second, .val (.int (0 : Int32)), .val (.double (own_D (0 + m0))), .second, .val (.int (4 : Int32))] [(.int (4 : Int32))])) _
              refine XS.aloadN X0.here hx rfl (hb hby d1_10) rfl rfl ?_
              show Steps p.tables e below (s₁.setTop (mkF m 11 #[.val (.ref a1), .val (.double (own_U uu)), .second, .val (.int (0 : Int32)), .val (.double (own_D (0 + m0))), .second, .val (.int (4 : Int32))] [(.ref a1), (.int (4 : Int32))])) _
              refine X0.arraylength hx (by first | exact Ar11_48.1 | (rw [e0]; exact Ar11_48.1)) (State.isArrayOf_alike hZ.alike Ar11_48.2.1) (g := (mkF m 11 #[.val (.ref a1), .val (.double (own_U uu)), .second, .val (.int (0 : Int32)), .val (.double (own_D (0 + m0))), .second, .val (.int (4 : Int32))] [(.ref a1), (.int (4 : Int32))])) rfl rfl (hb hby d1_11) _ ?_
              rw [len_of Sa11_48 Na11_48]
              show Steps p.tables e below (s₁.setTop (mkF m 12 #[.val (.ref a1), .val (.double (own_U uu)), .second, .val (.int (0 : Int32)), .val (.double (own_D (0 + m0))), .second, .val (.int (4 : Int32))] [(.int (4 : Int32)), (.int (4 : Int32))])) _
              refine XS.icmpYes X0.here hx rfl (pc0 := 12) (pc' := 52) rfl (hb hby d1_12) rfl (flt (by decide)).2.1 (by decide) (by decide) ?_
              show Steps p.tables e below (s₁.setTop (mkF m 52 #[.val (.ref a1), .val (.double (own_U uu)), .second, .val (.int (0 : Int32)), .val (.double (own_D (0 + m0))), .second, .val (.int (4 : Int32))] [])) _
              refine XS.iloadN X0.here hx rfl (hb hby d1_52) rfl ?_
              show Steps p.tables e below (s₁.setTop (mkF m 53 #[.val (.ref a1), .val (.double (own_U uu)), .second, .val (.int (0 : Int32)), .val (.double (own_D (0 + m0))), .second, .val (.int (4 : Int32))] [(.int (0 : Int32))])) _
              refine XS.ifYes X0.here hx rfl (pc0 := 53) (pc' := 66) rfl (hb hby d1_53) rfl ((if0 _ _).trans (flt (by decide)).2.1) (by decide) (by decide) ?_
              show Steps p.tables e below (s₁.setTop (mkF m 66 #[.val (.ref a1), .val (.double (own_U uu)), .second, .val (.int (0 : Int32)), .val (.double (own_D (0 + m0))), .second, .val (.int (4 : Int32))] [])) _
              refine XS.iloadN X0.here hx rfl (hb hby d1_66) rfl ?_
              show Steps p.tables e below (s₁.setTop (mkF m 67 #[.val (.ref a1), .val (.double (own_U uu)), .second, .val (.int (0 : Int32)), .val (.double (own_D (0 + m0))), .second, .val (.int (4 : Int32))] [(.int (0 : Int32))])) _
              exact retI X0 hx Bd.returns (hb hby d1_67) hr
            · show Q1 Z a1 kk m0 m1 m2 m3 uu h0 n0 _ s₁.heap _
              rw [e0]
              have hv : (own_draw m0 m1 m2 m3 uu) = (0 : Int32) := by unfold own_draw; rw [if_pos hc21, if_neg hc40, if_neg hc21_2, if_neg hc21_3, if_neg hc21_4]
              exact ⟨by rw [hv], N0, rfl⟩
  · have cp11_49 := V0
    obtain ⟨cl11_49, Ar11_49, -, Sa11_49, Na11_49, -, -⟩ := cp11_49
    have cp18_50 := V0
    obtain ⟨cl18_50, Ar18_50, -, Sa18_50, Na18_50, Ha18_50, -⟩ := cp18_50
    have hin18_50 : ¬ ((1 : Int32) < 0 ∨ cl18_50.slots.size ≤ ((1 : Int32)).toNatClampNeg) := inb_of Sa18_50 ⟨by decide, by decide⟩
    have hat18_50 : cl18_50.slots[((1 : Int32)).toNatClampNeg]? = some (.double (own_D m1)) := Ha18_50.at hin18_50 rfl
    have c51 : ∀ t, Steps p.tables e below (s₁.setTop (mkF m 21 #[.val (.ref a1), .val (.double (own_U uu)), .second, .val (.int (-1 : Int32)), .val (.double (own_D 0)), .second, .val (.int (1 : Int32))] [(.int (cmpValue (FP.dcmp (own_D m1) (own_D 0)) .l))])) t → Steps p.tables e below (s₁.setTop (entryFrame m #[(.ref a1), (.double (own_U uu))] 7)) t := fun t kt => by
      refine c3 _ ?_
      show Steps p.tables e below (s₁.setTop (mkF m 21 #[.val (.ref a1), .val (.double (own_U uu)), .second, .val (.int (-1 : Int32)), .val (.double (own_D 0)), .second, .val (.int (0 : Int32))] [(.int (cmpValue (FP.dcmp (own_D m0) (own_D 0)) .l))])) _
      refine XS.ifYes X0.here hx rfl (pc0 := 21) (pc' := 46) rfl (hb hby d1_21) rfl ((if0 _ _).trans (flt (fun q => hc21 ((own_gt m0 (by omega)).mp q))).2.2.2) (by decide) (by decide) ?_
      show Steps p.tables e below (s₁.setTop (mkF m 46 #[.val (.ref a1), .val (.double (own_U uu)), .second, .val (.int (-1 : Int32)), .val (.double (own_D 0)), .second, .val (.int (0 : Int32))] [])) _
      refine XS.iinc X0.here hx rfl (hb hby d1_46) rfl (l' := #[.val (.ref a1), .val (.double (own_U uu)), .second, .val (.int (-1 : Int32)), .val (.double (own_D 0)), .second, .val (.int (1 : Int32))]) rfl ?_
      show Steps p.tables e below (s₁.setTop (mkF m 49 #[.val (.ref a1), .val (.double (own_U uu)), .second, .val (.int (-1 : Int32)), .val (.double (own_D 0)), .second, .val (.int (1 : Int32))] [])) _
      refine XS.goto X0.here hx rfl (pc0 := 49) (pc' := 8) rfl (hb hby d1_49) (by decide) (by decide) ?_
      show Steps p.tables e below (s₁.setTop (mkF m 8 #[.val (.ref a1), .val (.double (own_U uu)), .second, .val (.int (-1 : Int32)), .val (.double (own_D 0)), .second, .val (.int (1 : Int32))] [])) _
      refine XS.iload X0.here hx rfl (hb hby d1_8) rfl ?_
      show Steps p.tables e below (s₁.setTop (mkF m 10 #[.val (.ref a1), .val (.double (own_U uu)), .second, .val (.int (-1 : Int32)), .val (.double (own_D 0)), .second, .val (.int (1 : Int32))] [(.int (1 : Int32))])) _
      refine XS.aloadN X0.here hx rfl (hb hby d1_10) rfl rfl ?_
      show Steps p.tables e below (s₁.setTop (mkF m 11 #[.val (.ref a1), .val (.double (own_U uu)), .second, .val (.int (-1 : Int32)), .val (.double (own_D 0)), .second, .val (.int (1 : Int32))] [(.ref a1), (.int (1 : Int32))])) _
      refine X0.arraylength hx (by first | exact Ar11_49.1 | (rw [e0]; exact Ar11_49.1)) (State.isArrayOf_alike hZ.alike Ar11_49.2.1) (g := (mkF m 11 #[.val (.ref a1), .val (.double (own_U uu)), .second, .val (.int (-1 : Int32)), .val (.double (own_D 0)), .second, .val (.int (1 : Int32))] [(.ref a1), (.int (1 : Int32))])) rfl rfl (hb hby d1_11) _ ?_
      rw [len_of Sa11_49 Na11_49]
      show Steps p.tables e below (s₁.setTop (mkF m 12 #[.val (.ref a1), .val (.double (own_U uu)), .second, .val (.int (-1 : Int32)), .val (.double (own_D 0)), .second, .val (.int (1 : Int32))] [(.int (4 : Int32)), (.int (1 : Int32))])) _
      refine XS.icmpNo X0.here hx rfl (hb hby d1_12) rfl (tlt (by decide)).2.1 ?_
      show Steps p.tables e below (s₁.setTop (mkF m 15 #[.val (.ref a1), .val (.double (own_U uu)), .second, .val (.int (-1 : Int32)), .val (.double (own_D 0)), .second, .val (.int (1 : Int32))] [])) _
      refine XS.aloadN X0.here hx rfl (hb hby d1_15) rfl rfl ?_
      show Steps p.tables e below (s₁.setTop (mkF m 16 #[.val (.ref a1), .val (.double (own_U uu)), .second, .val (.int (-1 : Int32)), .val (.double (own_D 0)), .second, .val (.int (1 : Int32))] [(.ref a1)])) _
      refine XS.iload X0.here hx rfl (hb hby d1_16) rfl ?_
      show Steps p.tables e below (s₁.setTop (mkF m 18 #[.val (.ref a1), .val (.double (own_U uu)), .second, .val (.int (-1 : Int32)), .val (.double (own_D 0)), .second, .val (.int (1 : Int32))] [(.int (1 : Int32)), (.ref a1)])) _
      refine X0.daload hx (j := (1 : Int32)) (v := (.double (own_D m1))) (by first | exact Ar18_50.1 | (rw [e0]; exact Ar18_50.1)) (State.isArrayOf_alike hZ.alike Ar18_50.2.1) Ar18_50.2.2 hin18_50 hat18_50 (g := (mkF m 18 #[.val (.ref a1), .val (.double (own_U uu)), .second, .val (.int (-1 : Int32)), .val (.double (own_D 0)), .second, .val (.int (1 : Int32))] [(.int (1 : Int32)), (.ref a1)])) rfl rfl (hb hby d1_18) _ ?_
      show Steps p.tables e below (s₁.setTop (mkF m 19 #[.val (.ref a1), .val (.double (own_U uu)), .second, .val (.int (-1 : Int32)), .val (.double (own_D 0)), .second, .val (.int (1 : Int32))] [(.double (own_D m1))])) _
      refine XS.dconst0 X0.here hx rfl (v := (own_D 0)) (hb hby d1_19) own_D0 ?_
      show Steps p.tables e below (s₁.setTop (mkF m 20 #[.val (.ref a1), .val (.double (own_U uu)), .second, .val (.int (-1 : Int32)), .val (.double (own_D 0)), .second, .val (.int (1 : Int32))] [(.double (own_D 0)), (.double (own_D m1))])) _
      refine XS.dcmpS X0.here hx rfl (hb hby d1_20) rfl rfl ?_
      exact kt
    by_cases hc21_2 : 0 < m1
    · have cp32_52 := V0
      obtain ⟨cl32_52, Ar32_52, -, Sa32_52, Na32_52, Ha32_52, -⟩ := cp32_52
      have hin32_52 : ¬ ((1 : Int32) < 0 ∨ cl32_52.slots.size ≤ ((1 : Int32)).toNatClampNeg) := inb_of Sa32_52 ⟨by decide, by decide⟩
      have hat32_52 : cl32_52.slots[((1 : Int32)).toNatClampNeg]? = some (.double (own_D m1)) := Ha32_52.at hin32_52 rfl
      have c53 : ∀ t, Steps p.tables e below (s₁.setTop (mkF m 40 #[.val (.ref a1), .val (.double (own_U uu)), .second, .val (.int (1 : Int32)), .val (.double (own_D (0 + m1))), .second, .val (.int (1 : Int32))] [(.int (cmpValue (FP.dcmp (own_U uu) (own_D (0 + m1))) .g))])) t → Steps p.tables e below (s₁.setTop (entryFrame m #[(.ref a1), (.double (own_U uu))] 7)) t := fun t kt => by
        refine c51 _ ?_
        show Steps p.tables e below (s₁.setTop (mkF m 21 #[.val (.ref a1), .val (.double (own_U uu)), .second, .val (.int (-1 : Int32)), .val (.double (own_D 0)), .second, .val (.int (1 : Int32))] [(.int (cmpValue (FP.dcmp (own_D m1) (own_D 0)) .l))])) _
        refine XS.ifNo X0.here hx rfl (hb hby d1_21) rfl ((if0 _ _).trans (tlt ((own_gt m1 (by omega)).mpr hc21_2)).2.2.2) ?_
        show Steps p.tables e below (s₁.setTop (mkF m 24 #[.val (.ref a1), .val (.double (own_U uu)), .second, .val (.int (-1 : Int32)), .val (.double (own_D 0)), .second, .val (.int (1 : Int32))] [])) _
        refine XS.iload X0.here hx rfl (hb hby d1_24) rfl ?_
        show Steps p.tables e below (s₁.setTop (mkF m 26 #[.val (.ref a1), .val (.double (own_U uu)), .second, .val (.int (-1 : Int32)), .val (.double (own_D 0)), .second, .val (.int (1 : Int32))] [(.int (1 : Int32))])) _
        refine XS.istoreN X0.here hx rfl (hb hby d1_26) rfl (l' := #[.val (.ref a1), .val (.double (own_U uu)), .second, .val (.int (1 : Int32)), .val (.double (own_D 0)), .second, .val (.int (1 : Int32))]) rfl ?_
        show Steps p.tables e below (s₁.setTop (mkF m 27 #[.val (.ref a1), .val (.double (own_U uu)), .second, .val (.int (1 : Int32)), .val (.double (own_D 0)), .second, .val (.int (1 : Int32))] [])) _
        refine XS.dload X0.here hx rfl (hb hby d1_27) rfl ?_
        show Steps p.tables e below (s₁.setTop (mkF m 29 #[.val (.ref a1), .val (.double (own_U uu)), .second, .val (.int (1 : Int32)), .val (.double (own_D 0)), .second, .val (.int (1 : Int32))] [(.double (own_D 0))])) _
        refine XS.aloadN X0.here hx rfl (hb hby d1_29) rfl rfl ?_
        show Steps p.tables e below (s₁.setTop (mkF m 30 #[.val (.ref a1), .val (.double (own_U uu)), .second, .val (.int (1 : Int32)), .val (.double (own_D 0)), .second, .val (.int (1 : Int32))] [(.ref a1), (.double (own_D 0))])) _
        refine XS.iload X0.here hx rfl (hb hby d1_30) rfl ?_
        show Steps p.tables e below (s₁.setTop (mkF m 32 #[.val (.ref a1), .val (.double (own_U uu)), .second, .val (.int (1 : Int32)), .val (.double (own_D 0)), .second, .val (.int (1 : Int32))] [(.int (1 : Int32)), (.ref a1), (.double (own_D 0))])) _
        refine X0.daload hx (j := (1 : Int32)) (v := (.double (own_D m1))) (by first | exact Ar32_52.1 | (rw [e0]; exact Ar32_52.1)) (State.isArrayOf_alike hZ.alike Ar32_52.2.1) Ar32_52.2.2 hin32_52 hat32_52 (g := (mkF m 32 #[.val (.ref a1), .val (.double (own_U uu)), .second, .val (.int (1 : Int32)), .val (.double (own_D 0)), .second, .val (.int (1 : Int32))] [(.int (1 : Int32)), (.ref a1), (.double (own_D 0))])) rfl rfl (hb hby d1_32) _ ?_
        show Steps p.tables e below (s₁.setTop (mkF m 33 #[.val (.ref a1), .val (.double (own_U uu)), .second, .val (.int (1 : Int32)), .val (.double (own_D 0)), .second, .val (.int (1 : Int32))] [(.double (own_D m1)), (.double (own_D 0))])) _
        refine XS.daddS X0.here hx rfl (hb hby d1_33) rfl (v := (own_D (0 + m1))) (own_nan2 _ _ (by omega)) (own_add _ _ (by omega)) ?_
        show Steps p.tables e below (s₁.setTop (mkF m 34 #[.val (.ref a1), .val (.double (own_U uu)), .second, .val (.int (1 : Int32)), .val (.double (own_D 0)), .second, .val (.int (1 : Int32))] [(.double (own_D (0 + m1)))])) _
        refine XS.dstore X0.here hx rfl (hb hby d1_34) rfl (l' := #[.val (.ref a1), .val (.double (own_U uu)), .second, .val (.int (1 : Int32)), .val (.double (own_D (0 + m1))), .second, .val (.int (1 : Int32))]) rfl ?_
        show Steps p.tables e below (s₁.setTop (mkF m 36 #[.val (.ref a1), .val (.double (own_U uu)), .second, .val (.int (1 : Int32)), .val (.double (own_D (0 + m1))), .second, .val (.int (1 : Int32))] [])) _
        refine XS.dloadN X0.here hx rfl (hb hby d1_36) rfl ?_
        show Steps p.tables e below (s₁.setTop (mkF m 37 #[.val (.ref a1), .val (.double (own_U uu)), .second, .val (.int (1 : Int32)), .val (.double (own_D (0 + m1))), .second, .val (.int (1 : Int32))] [(.double (own_U uu))])) _
        refine XS.dload X0.here hx rfl (hb hby d1_37) rfl ?_
        show Steps p.tables e below (s₁.setTop (mkF m 39 #[.val (.ref a1), .val (.double (own_U uu)), .second, .val (.int (1 : Int32)), .val (.double (own_D (0 + m1))), .second, .val (.int (1 : Int32))] [(.double (own_D (0 + m1))), (.double (own_U uu))])) _
        refine XS.dcmpS X0.here hx rfl (hb hby d1_39) rfl rfl ?_
        exact kt
      by_cases hc40 : uu < 16 * (0 + m1)
      · obtain ⟨fs, hr, hrun, hended, hW, hsame⟩ := X0.leave (v := some (.int (1 : Int32))) (fun h => by rw [Bd.returns] at h; cases h)
        refine ⟨_, _, c53 _ ?_, hrun, hended, _, _, rfl, ?_, ⟨_, rfl⟩, hW, hsame.mono (by decide) (by decide)⟩
        · show Steps p.tables e below (s₁.setTop (mkF m 40 #[.val (.ref a1), .val (.double (own_U uu)), .second, .val (.int (1 : Int32)), .val (.double (own_D (0 + m1))), .second, .val (.int (1 : Int32))] [(.int (cmpValue (FP.dcmp (own_U uu) (own_D (0 + m1))) .g))])) _
          refine XS.ifNo X0.here hx rfl (hb hby d1_40) rfl ((if0 _ _).trans (tlt ((own_lt uu (0 + m1) hu (by omega)).mpr hc40)).2.1) ?_
          show Steps p.tables e below (s₁.setTop (mkF m 43 #[.val (.ref a1), .val (.double (own_U uu)), .second, .val (.int (1 : Int32)), .val (.double (own_D (0 + m1))), .second, .val (.int (1 : Int32))] [])) _
          refine XS.goto X0.here hx rfl (pc0 := 43) (pc' := 52) rfl (hb hby d1_43) (by decide) (by decide) ?_
          show Steps p.tables e below (s₁.setTop (mkF m 52 #[.val (.ref a1), .val (.double (own_U uu)), .second, .val (.int (1 : Int32)), .val (.double (own_D (0 + m1))), .second, .val (.int (1 : Int32))] [])) _
          refine XS.iloadN X0.here hx rfl (hb hby d1_52) rfl ?_
          show Steps p.tables e below (s₁.setTop (mkF m 53 #[.val (.ref a1), .val (.double (own_U uu)), .second, .val (.int (1 : Int32)), .val (.double (own_D (0 + m1))), .second, .val (.int (1 : Int32))] [(.int (1 : Int32))])) _
          refine XS.ifYes X0.here hx rfl (pc0 := 53) (pc' := 66) rfl (hb hby d1_53) rfl ((if0 _ _).trans (flt (by decide)).2.1) (by decide) (by decide) ?_
          show Steps p.tables e below (s₁.setTop (mkF m 66 #[.val (.ref a1), .val (.double (own_U uu)), .second, .val (.int (1 : Int32)), .val (.double (own_D (0 + m1))), .second, .val (.int (1 : Int32))] [])) _
          refine XS.iloadN X0.here hx rfl (hb hby d1_66) rfl ?_
          show Steps p.tables e below (s₁.setTop (mkF m 67 #[.val (.ref a1), .val (.double (own_U uu)), .second, .val (.int (1 : Int32)), .val (.double (own_D (0 + m1))), .second, .val (.int (1 : Int32))] [(.int (1 : Int32))])) _
          exact retI X0 hx Bd.returns (hb hby d1_67) hr
        · show Q1 Z a1 kk m0 m1 m2 m3 uu h0 n0 _ s₁.heap _
          rw [e0]
          have hv : (own_draw m0 m1 m2 m3 uu) = (1 : Int32) := by unfold own_draw; rw [if_neg hc21, if_pos hc21_2, if_pos hc40]
          exact ⟨by rw [hv], N0, rfl⟩
      · have cp11_54 := V0
        obtain ⟨cl11_54, Ar11_54, -, Sa11_54, Na11_54, -, -⟩ := cp11_54
        have cp18_55 := V0
        obtain ⟨cl18_55, Ar18_55, -, Sa18_55, Na18_55, Ha18_55, -⟩ := cp18_55
        have hin18_55 : ¬ ((2 : Int32) < 0 ∨ cl18_55.slots.size ≤ ((2 : Int32)).toNatClampNeg) := inb_of Sa18_55 ⟨by decide, by decide⟩
        have hat18_55 : cl18_55.slots[((2 : Int32)).toNatClampNeg]? = some (.double (own_D m2)) := Ha18_55.at hin18_55 rfl
        have c56 : ∀ t, Steps p.tables e below (s₁.setTop (mkF m 21 #[.val (.ref a1), .val (.double (own_U uu)), .second, .val (.int (1 : Int32)), .val (.double (own_D (0 + m1))), .second, .val (.int (2 : Int32))] [(.int (cmpValue (FP.dcmp (own_D m2) (own_D 0)) .l))])) t → Steps p.tables e below (s₁.setTop (entryFrame m #[(.ref a1), (.double (own_U uu))] 7)) t := fun t kt => by
          refine c53 _ ?_
          show Steps p.tables e below (s₁.setTop (mkF m 40 #[.val (.ref a1), .val (.double (own_U uu)), .second, .val (.int (1 : Int32)), .val (.double (own_D (0 + m1))), .second, .val (.int (1 : Int32))] [(.int (cmpValue (FP.dcmp (own_U uu) (own_D (0 + m1))) .g))])) _
          refine XS.ifYes X0.here hx rfl (pc0 := 40) (pc' := 46) rfl (hb hby d1_40) rfl ((if0 _ _).trans (flt (fun q => hc40 ((own_lt uu (0 + m1) hu (by omega)).mp q))).2.1) (by decide) (by decide) ?_
          show Steps p.tables e below (s₁.setTop (mkF m 46 #[.val (.ref a1), .val (.double (own_U uu)), .second, .val (.int (1 : Int32)), .val (.double (own_D (0 + m1))), .second, .val (.int (1 : Int32))] [])) _
          refine XS.iinc X0.here hx rfl (hb hby d1_46) rfl (l' := #[.val (.ref a1), .val (.double (own_U uu)), .second, .val (.int (1 : Int32)), .val (.double (own_D (0 + m1))), .second, .val (.int (2 : Int32))]) rfl ?_
          show Steps p.tables e below (s₁.setTop (mkF m 49 #[.val (.ref a1), .val (.double (own_U uu)), .second, .val (.int (1 : Int32)), .val (.double (own_D (0 + m1))), .second, .val (.int (2 : Int32))] [])) _
          refine XS.goto X0.here hx rfl (pc0 := 49) (pc' := 8) rfl (hb hby d1_49) (by decide) (by decide) ?_
          show Steps p.tables e below (s₁.setTop (mkF m 8 #[.val (.ref a1), .val (.double (own_U uu)), .second, .val (.int (1 : Int32)), .val (.double (own_D (0 + m1))), .second, .val (.int (2 : Int32))] [])) _
          refine XS.iload X0.here hx rfl (hb hby d1_8) rfl ?_
          show Steps p.tables e below (s₁.setTop (mkF m 10 #[.val (.ref a1), .val (.double (own_U uu)), .second, .val (.int (1 : Int32)), .val (.double (own_D (0 + m1))), .second, .val (.int (2 : Int32))] [(.int (2 : Int32))])) _
          refine XS.aloadN X0.here hx rfl (hb hby d1_10) rfl rfl ?_
          show Steps p.tables e below (s₁.setTop (mkF m 11 #[.val (.ref a1), .val (.double (own_U uu)), .second, .val (.int (1 : Int32)), .val (.double (own_D (0 + m1))), .second, .val (.int (2 : Int32))] [(.ref a1), (.int (2 : Int32))])) _
          refine X0.arraylength hx (by first | exact Ar11_54.1 | (rw [e0]; exact Ar11_54.1)) (State.isArrayOf_alike hZ.alike Ar11_54.2.1) (g := (mkF m 11 #[.val (.ref a1), .val (.double (own_U uu)), .second, .val (.int (1 : Int32)), .val (.double (own_D (0 + m1))), .second, .val (.int (2 : Int32))] [(.ref a1), (.int (2 : Int32))])) rfl rfl (hb hby d1_11) _ ?_
          rw [len_of Sa11_54 Na11_54]
          show Steps p.tables e below (s₁.setTop (mkF m 12 #[.val (.ref a1), .val (.double (own_U uu)), .second, .val (.int (1 : Int32)), .val (.double (own_D (0 + m1))), .second, .val (.int (2 : Int32))] [(.int (4 : Int32)), (.int (2 : Int32))])) _
          refine XS.icmpNo X0.here hx rfl (hb hby d1_12) rfl (tlt (by decide)).2.1 ?_
          show Steps p.tables e below (s₁.setTop (mkF m 15 #[.val (.ref a1), .val (.double (own_U uu)), .second, .val (.int (1 : Int32)), .val (.double (own_D (0 + m1))), .second, .val (.int (2 : Int32))] [])) _
          refine XS.aloadN X0.here hx rfl (hb hby d1_15) rfl rfl ?_
          show Steps p.tables e below (s₁.setTop (mkF m 16 #[.val (.ref a1), .val (.double (own_U uu)), .second, .val (.int (1 : Int32)), .val (.double (own_D (0 + m1))), .second, .val (.int (2 : Int32))] [(.ref a1)])) _
          refine XS.iload X0.here hx rfl (hb hby d1_16) rfl ?_
          show Steps p.tables e below (s₁.setTop (mkF m 18 #[.val (.ref a1), .val (.double (own_U uu)), .second, .val (.int (1 : Int32)), .val (.double (own_D (0 + m1))), .second, .val (.int (2 : Int32))] [(.int (2 : Int32)), (.ref a1)])) _
          refine X0.daload hx (j := (2 : Int32)) (v := (.double (own_D m2))) (by first | exact Ar18_55.1 | (rw [e0]; exact Ar18_55.1)) (State.isArrayOf_alike hZ.alike Ar18_55.2.1) Ar18_55.2.2 hin18_55 hat18_55 (g := (mkF m 18 #[.val (.ref a1), .val (.double (own_U uu)), .second, .val (.int (1 : Int32)), .val (.double (own_D (0 + m1))), .second, .val (.int (2 : Int32))] [(.int (2 : Int32)), (.ref a1)])) rfl rfl (hb hby d1_18) _ ?_
          show Steps p.tables e below (s₁.setTop (mkF m 19 #[.val (.ref a1), .val (.double (own_U uu)), .second, .val (.int (1 : Int32)), .val (.double (own_D (0 + m1))), .second, .val (.int (2 : Int32))] [(.double (own_D m2))])) _
          refine XS.dconst0 X0.here hx rfl (v := (own_D 0)) (hb hby d1_19) own_D0 ?_
          show Steps p.tables e below (s₁.setTop (mkF m 20 #[.val (.ref a1), .val (.double (own_U uu)), .second, .val (.int (1 : Int32)), .val (.double (own_D (0 + m1))), .second, .val (.int (2 : Int32))] [(.double (own_D 0)), (.double (own_D m2))])) _
          refine XS.dcmpS X0.here hx rfl (hb hby d1_20) rfl rfl ?_
          exact kt
        by_cases hc21_3 : 0 < m2
        · have cp32_57 := V0
          obtain ⟨cl32_57, Ar32_57, -, Sa32_57, Na32_57, Ha32_57, -⟩ := cp32_57
          have hin32_57 : ¬ ((2 : Int32) < 0 ∨ cl32_57.slots.size ≤ ((2 : Int32)).toNatClampNeg) := inb_of Sa32_57 ⟨by decide, by decide⟩
          have hat32_57 : cl32_57.slots[((2 : Int32)).toNatClampNeg]? = some (.double (own_D m2)) := Ha32_57.at hin32_57 rfl
          have c58 : ∀ t, Steps p.tables e below (s₁.setTop (mkF m 40 #[.val (.ref a1), .val (.double (own_U uu)), .second, .val (.int (2 : Int32)), .val (.double (own_D ((0 + m1) + m2))), .second, .val (.int (2 : Int32))] [(.int (cmpValue (FP.dcmp (own_U uu) (own_D ((0 + m1) + m2))) .g))])) t → Steps p.tables e below (s₁.setTop (entryFrame m #[(.ref a1), (.double (own_U uu))] 7)) t := fun t kt => by
            refine c56 _ ?_
            show Steps p.tables e below (s₁.setTop (mkF m 21 #[.val (.ref a1), .val (.double (own_U uu)), .second, .val (.int (1 : Int32)), .val (.double (own_D (0 + m1))), .second, .val (.int (2 : Int32))] [(.int (cmpValue (FP.dcmp (own_D m2) (own_D 0)) .l))])) _
            refine XS.ifNo X0.here hx rfl (hb hby d1_21) rfl ((if0 _ _).trans (tlt ((own_gt m2 (by omega)).mpr hc21_3)).2.2.2) ?_
            show Steps p.tables e below (s₁.setTop (mkF m 24 #[.val (.ref a1), .val (.double (own_U uu)), .second, .val (.int (1 : Int32)), .val (.double (own_D (0 + m1))), .second, .val (.int (2 : Int32))] [])) _
            refine XS.iload X0.here hx rfl (hb hby d1_24) rfl ?_
            show Steps p.tables e below (s₁.setTop (mkF m 26 #[.val (.ref a1), .val (.double (own_U uu)), .second, .val (.int (1 : Int32)), .val (.double (own_D (0 + m1))), .second, .val (.int (2 : Int32))] [(.int (2 : Int32))])) _
            refine XS.istoreN X0.here hx rfl (hb hby d1_26) rfl (l' := #[.val (.ref a1), .val (.double (own_U uu)), .second, .val (.int (2 : Int32)), .val (.double (own_D (0 + m1))), .second, .val (.int (2 : Int32))]) rfl ?_
            show Steps p.tables e below (s₁.setTop (mkF m 27 #[.val (.ref a1), .val (.double (own_U uu)), .second, .val (.int (2 : Int32)), .val (.double (own_D (0 + m1))), .second, .val (.int (2 : Int32))] [])) _
            refine XS.dload X0.here hx rfl (hb hby d1_27) rfl ?_
            show Steps p.tables e below (s₁.setTop (mkF m 29 #[.val (.ref a1), .val (.double (own_U uu)), .second, .val (.int (2 : Int32)), .val (.double (own_D (0 + m1))), .second, .val (.int (2 : Int32))] [(.double (own_D (0 + m1)))])) _
            refine XS.aloadN X0.here hx rfl (hb hby d1_29) rfl rfl ?_
            show Steps p.tables e below (s₁.setTop (mkF m 30 #[.val (.ref a1), .val (.double (own_U uu)), .second, .val (.int (2 : Int32)), .val (.double (own_D (0 + m1))), .second, .val (.int (2 : Int32))] [(.ref a1), (.double (own_D (0 + m1)))])) _
            refine XS.iload X0.here hx rfl (hb hby d1_30) rfl ?_
            show Steps p.tables e below (s₁.setTop (mkF m 32 #[.val (.ref a1), .val (.double (own_U uu)), .second, .val (.int (2 : Int32)), .val (.double (own_D (0 + m1))), .second, .val (.int (2 : Int32))] [(.int (2 : Int32)), (.ref a1), (.double (own_D (0 + m1)))])) _
            refine X0.daload hx (j := (2 : Int32)) (v := (.double (own_D m2))) (by first | exact Ar32_57.1 | (rw [e0]; exact Ar32_57.1)) (State.isArrayOf_alike hZ.alike Ar32_57.2.1) Ar32_57.2.2 hin32_57 hat32_57 (g := (mkF m 32 #[.val (.ref a1), .val (.double (own_U uu)), .second, .val (.int (2 : Int32)), .val (.double (own_D (0 + m1))), .second, .val (.int (2 : Int32))] [(.int (2 : Int32)), (.ref a1), (.double (own_D (0 + m1)))])) rfl rfl (hb hby d1_32) _ ?_
            show Steps p.tables e below (s₁.setTop (mkF m 33 #[.val (.ref a1), .val (.double (own_U uu)), .second, .val (.int (2 : Int32)), .val (.double (own_D (0 + m1))), .second, .val (.int (2 : Int32))] [(.double (own_D m2)), (.double (own_D (0 + m1)))])) _
            refine XS.daddS X0.here hx rfl (hb hby d1_33) rfl (v := (own_D ((0 + m1) + m2))) (own_nan2 _ _ (by omega)) (own_add _ _ (by omega)) ?_
            show Steps p.tables e below (s₁.setTop (mkF m 34 #[.val (.ref a1), .val (.double (own_U uu)), .second, .val (.int (2 : Int32)), .val (.double (own_D (0 + m1))), .second, .val (.int (2 : Int32))] [(.double (own_D ((0 + m1) + m2)))])) _
            refine XS.dstore X0.here hx rfl (hb hby d1_34) rfl (l' := #[.val (.ref a1), .val (.double (own_U uu)), .second, .val (.int (2 : Int32)), .val (.double (own_D ((0 + m1) + m2))), .second, .val (.int (2 : Int32))]) rfl ?_
            show Steps p.tables e below (s₁.setTop (mkF m 36 #[.val (.ref a1), .val (.double (own_U uu)), .second, .val (.int (2 : Int32)), .val (.double (own_D ((0 + m1) + m2))), .second, .val (.int (2 : Int32))] [])) _
            refine XS.dloadN X0.here hx rfl (hb hby d1_36) rfl ?_
            show Steps p.tables e below (s₁.setTop (mkF m 37 #[.val (.ref a1), .val (.double (own_U uu)), .second, .val (.int (2 : Int32)), .val (.double (own_D ((0 + m1) + m2))), .second, .val (.int (2 : Int32))] [(.double (own_U uu))])) _
            refine XS.dload X0.here hx rfl (hb hby d1_37) rfl ?_
            show Steps p.tables e below (s₁.setTop (mkF m 39 #[.val (.ref a1), .val (.double (own_U uu)), .second, .val (.int (2 : Int32)), .val (.double (own_D ((0 + m1) + m2))), .second, .val (.int (2 : Int32))] [(.double (own_D ((0 + m1) + m2))), (.double (own_U uu))])) _
            refine XS.dcmpS X0.here hx rfl (hb hby d1_39) rfl rfl ?_
            exact kt
          by_cases hc40_2 : uu < 16 * ((0 + m1) + m2)
          · obtain ⟨fs, hr, hrun, hended, hW, hsame⟩ := X0.leave (v := some (.int (2 : Int32))) (fun h => by rw [Bd.returns] at h; cases h)
            refine ⟨_, _, c58 _ ?_, hrun, hended, _, _, rfl, ?_, ⟨_, rfl⟩, hW, hsame.mono (by decide) (by decide)⟩
            · show Steps p.tables e below (s₁.setTop (mkF m 40 #[.val (.ref a1), .val (.double (own_U uu)), .second, .val (.int (2 : Int32)), .val (.double (own_D ((0 + m1) + m2))), .second, .val (.int (2 : Int32))] [(.int (cmpValue (FP.dcmp (own_U uu) (own_D ((0 + m1) + m2))) .g))])) _
              refine XS.ifNo X0.here hx rfl (hb hby d1_40) rfl ((if0 _ _).trans (tlt ((own_lt uu ((0 + m1) + m2) hu (by omega)).mpr hc40_2)).2.1) ?_
              show Steps p.tables e below (s₁.setTop (mkF m 43 #[.val (.ref a1), .val (.double (own_U uu)), .second, .val (.int (2 : Int32)), .val (.double (own_D ((0 + m1) + m2))), .second, .val (.int (2 : Int32))] [])) _
              refine XS.goto X0.here hx rfl (pc0 := 43) (pc' := 52) rfl (hb hby d1_43) (by decide) (by decide) ?_
              show Steps p.tables e below (s₁.setTop (mkF m 52 #[.val (.ref a1), .val (.double (own_U uu)), .second, .val (.int (2 : Int32)), .val (.double (own_D ((0 + m1) + m2))), .second, .val (.int (2 : Int32))] [])) _
              refine XS.iloadN X0.here hx rfl (hb hby d1_52) rfl ?_
              show Steps p.tables e below (s₁.setTop (mkF m 53 #[.val (.ref a1), .val (.double (own_U uu)), .second, .val (.int (2 : Int32)), .val (.double (own_D ((0 + m1) + m2))), .second, .val (.int (2 : Int32))] [(.int (2 : Int32))])) _
              refine XS.ifYes X0.here hx rfl (pc0 := 53) (pc' := 66) rfl (hb hby d1_53) rfl ((if0 _ _).trans (flt (by decide)).2.1) (by decide) (by decide) ?_
              show Steps p.tables e below (s₁.setTop (mkF m 66 #[.val (.ref a1), .val (.double (own_U uu)), .second, .val (.int (2 : Int32)), .val (.double (own_D ((0 + m1) + m2))), .second, .val (.int (2 : Int32))] [])) _
              refine XS.iloadN X0.here hx rfl (hb hby d1_66) rfl ?_
              show Steps p.tables e below (s₁.setTop (mkF m 67 #[.val (.ref a1), .val (.double (own_U uu)), .second, .val (.int (2 : Int32)), .val (.double (own_D ((0 + m1) + m2))), .second, .val (.int (2 : Int32))] [(.int (2 : Int32))])) _
              exact retI X0 hx Bd.returns (hb hby d1_67) hr
            · show Q1 Z a1 kk m0 m1 m2 m3 uu h0 n0 _ s₁.heap _
              rw [e0]
              have hv : (own_draw m0 m1 m2 m3 uu) = (2 : Int32) := by unfold own_draw; rw [if_neg hc21, if_pos hc21_2, if_neg hc40, if_pos hc21_3, if_pos hc40_2]
              exact ⟨by rw [hv], N0, rfl⟩
          · have cp11_59 := V0
            obtain ⟨cl11_59, Ar11_59, -, Sa11_59, Na11_59, -, -⟩ := cp11_59
            have cp18_60 := V0
            obtain ⟨cl18_60, Ar18_60, -, Sa18_60, Na18_60, Ha18_60, -⟩ := cp18_60
            have hin18_60 : ¬ ((3 : Int32) < 0 ∨ cl18_60.slots.size ≤ ((3 : Int32)).toNatClampNeg) := inb_of Sa18_60 ⟨by decide, by decide⟩
            have hat18_60 : cl18_60.slots[((3 : Int32)).toNatClampNeg]? = some (.double (own_D m3)) := Ha18_60.at hin18_60 rfl
            have c61 : ∀ t, Steps p.tables e below (s₁.setTop (mkF m 21 #[.val (.ref a1), .val (.double (own_U uu)), .second, .val (.int (2 : Int32)), .val (.double (own_D ((0 + m1) + m2))), .second, .val (.int (3 : Int32))] [(.int (cmpValue (FP.dcmp (own_D m3) (own_D 0)) .l))])) t → Steps p.tables e below (s₁.setTop (entryFrame m #[(.ref a1), (.double (own_U uu))] 7)) t := fun t kt => by
              refine c58 _ ?_
              show Steps p.tables e below (s₁.setTop (mkF m 40 #[.val (.ref a1), .val (.double (own_U uu)), .second, .val (.int (2 : Int32)), .val (.double (own_D ((0 + m1) + m2))), .second, .val (.int (2 : Int32))] [(.int (cmpValue (FP.dcmp (own_U uu) (own_D ((0 + m1) + m2))) .g))])) _
              refine XS.ifYes X0.here hx rfl (pc0 := 40) (pc' := 46) rfl (hb hby d1_40) rfl ((if0 _ _).trans (flt (fun q => hc40_2 ((own_lt uu ((0 + m1) + m2) hu (by omega)).mp q))).2.1) (by decide) (by decide) ?_
              show Steps p.tables e below (s₁.setTop (mkF m 46 #[.val (.ref a1), .val (.double (own_U uu)), .second, .val (.int (2 : Int32)), .val (.double (own_D ((0 + m1) + m2))), .second, .val (.int (2 : Int32))] [])) _
              refine XS.iinc X0.here hx rfl (hb hby d1_46) rfl (l' := #[.val (.ref a1), .val (.double (own_U uu)), .second, .val (.int (2 : Int32)), .val (.double (own_D ((0 + m1) + m2))), .second, .val (.int (3 : Int32))]) rfl ?_
              show Steps p.tables e below (s₁.setTop (mkF m 49 #[.val (.ref a1), .val (.double (own_U uu)), .second, .val (.int (2 : Int32)), .val (.double (own_D ((0 + m1) + m2))), .second, .val (.int (3 : Int32))] [])) _
              refine XS.goto X0.here hx rfl (pc0 := 49) (pc' := 8) rfl (hb hby d1_49) (by decide) (by decide) ?_
              show Steps p.tables e below (s₁.setTop (mkF m 8 #[.val (.ref a1), .val (.double (own_U uu)), .second, .val (.int (2 : Int32)), .val (.double (own_D ((0 + m1) + m2))), .second, .val (.int (3 : Int32))] [])) _
              refine XS.iload X0.here hx rfl (hb hby d1_8) rfl ?_
              show Steps p.tables e below (s₁.setTop (mkF m 10 #[.val (.ref a1), .val (.double (own_U uu)), .second, .val (.int (2 : Int32)), .val (.double (own_D ((0 + m1) + m2))), .second, .val (.int (3 : Int32))] [(.int (3 : Int32))])) _
              refine XS.aloadN X0.here hx rfl (hb hby d1_10) rfl rfl ?_
              show Steps p.tables e below (s₁.setTop (mkF m 11 #[.val (.ref a1), .val (.double (own_U uu)), .second, .val (.int (2 : Int32)), .val (.double (own_D ((0 + m1) + m2))), .second, .val (.int (3 : Int32))] [(.ref a1), (.int (3 : Int32))])) _
              refine X0.arraylength hx (by first | exact Ar11_59.1 | (rw [e0]; exact Ar11_59.1)) (State.isArrayOf_alike hZ.alike Ar11_59.2.1) (g := (mkF m 11 #[.val (.ref a1), .val (.double (own_U uu)), .second, .val (.int (2 : Int32)), .val (.double (own_D ((0 + m1) + m2))), .second, .val (.int (3 : Int32))] [(.ref a1), (.int (3 : Int32))])) rfl rfl (hb hby d1_11) _ ?_
              rw [len_of Sa11_59 Na11_59]
              show Steps p.tables e below (s₁.setTop (mkF m 12 #[.val (.ref a1), .val (.double (own_U uu)), .second, .val (.int (2 : Int32)), .val (.double (own_D ((0 + m1) + m2))), .second, .val (.int (3 : Int32))] [(.int (4 : Int32)), (.int (3 : Int32))])) _
              refine XS.icmpNo X0.here hx rfl (hb hby d1_12) rfl (tlt (by decide)).2.1 ?_
              show Steps p.tables e below (s₁.setTop (mkF m 15 #[.val (.ref a1), .val (.double (own_U uu)), .second, .val (.int (2 : Int32)), .val (.double (own_D ((0 + m1) + m2))), .second, .val (.int (3 : Int32))] [])) _
              refine XS.aloadN X0.here hx rfl (hb hby d1_15) rfl rfl ?_
              show Steps p.tables e below (s₁.setTop (mkF m 16 #[.val (.ref a1), .val (.double (own_U uu)), .second, .val (.int (2 : Int32)), .val (.double (own_D ((0 + m1) + m2))), .second, .val (.int (3 : Int32))] [(.ref a1)])) _
              refine XS.iload X0.here hx rfl (hb hby d1_16) rfl ?_
              show Steps p.tables e below (s₁.setTop (mkF m 18 #[.val (.ref a1), .val (.double (own_U uu)), .second, .val (.int (2 : Int32)), .val (.double (own_D ((0 + m1) + m2))), .second, .val (.int (3 : Int32))] [(.int (3 : Int32)), (.ref a1)])) _
              refine X0.daload hx (j := (3 : Int32)) (v := (.double (own_D m3))) (by first | exact Ar18_60.1 | (rw [e0]; exact Ar18_60.1)) (State.isArrayOf_alike hZ.alike Ar18_60.2.1) Ar18_60.2.2 hin18_60 hat18_60 (g := (mkF m 18 #[.val (.ref a1), .val (.double (own_U uu)), .second, .val (.int (2 : Int32)), .val (.double (own_D ((0 + m1) + m2))), .second, .val (.int (3 : Int32))] [(.int (3 : Int32)), (.ref a1)])) rfl rfl (hb hby d1_18) _ ?_
              show Steps p.tables e below (s₁.setTop (mkF m 19 #[.val (.ref a1), .val (.double (own_U uu)), .second, .val (.int (2 : Int32)), .val (.double (own_D ((0 + m1) + m2))), .second, .val (.int (3 : Int32))] [(.double (own_D m3))])) _
              refine XS.dconst0 X0.here hx rfl (v := (own_D 0)) (hb hby d1_19) own_D0 ?_
              show Steps p.tables e below (s₁.setTop (mkF m 20 #[.val (.ref a1), .val (.double (own_U uu)), .second, .val (.int (2 : Int32)), .val (.double (own_D ((0 + m1) + m2))), .second, .val (.int (3 : Int32))] [(.double (own_D 0)), (.double (own_D m3))])) _
              refine XS.dcmpS X0.here hx rfl (hb hby d1_20) rfl rfl ?_
              exact kt
            by_cases hc21_4 : 0 < m3
            · have cp32_62 := V0
              obtain ⟨cl32_62, Ar32_62, -, Sa32_62, Na32_62, Ha32_62, -⟩ := cp32_62
              have hin32_62 : ¬ ((3 : Int32) < 0 ∨ cl32_62.slots.size ≤ ((3 : Int32)).toNatClampNeg) := inb_of Sa32_62 ⟨by decide, by decide⟩
              have hat32_62 : cl32_62.slots[((3 : Int32)).toNatClampNeg]? = some (.double (own_D m3)) := Ha32_62.at hin32_62 rfl
              have c63 : ∀ t, Steps p.tables e below (s₁.setTop (mkF m 40 #[.val (.ref a1), .val (.double (own_U uu)), .second, .val (.int (3 : Int32)), .val (.double (own_D (((0 + m1) + m2) + m3))), .second, .val (.int (3 : Int32))] [(.int (cmpValue (FP.dcmp (own_U uu) (own_D (((0 + m1) + m2) + m3))) .g))])) t → Steps p.tables e below (s₁.setTop (entryFrame m #[(.ref a1), (.double (own_U uu))] 7)) t := fun t kt => by
                refine c61 _ ?_
                show Steps p.tables e below (s₁.setTop (mkF m 21 #[.val (.ref a1), .val (.double (own_U uu)), .second, .val (.int (2 : Int32)), .val (.double (own_D ((0 + m1) + m2))), .second, .val (.int (3 : Int32))] [(.int (cmpValue (FP.dcmp (own_D m3) (own_D 0)) .l))])) _
                refine XS.ifNo X0.here hx rfl (hb hby d1_21) rfl ((if0 _ _).trans (tlt ((own_gt m3 (by omega)).mpr hc21_4)).2.2.2) ?_
                show Steps p.tables e below (s₁.setTop (mkF m 24 #[.val (.ref a1), .val (.double (own_U uu)), .second, .val (.int (2 : Int32)), .val (.double (own_D ((0 + m1) + m2))), .second, .val (.int (3 : Int32))] [])) _
                refine XS.iload X0.here hx rfl (hb hby d1_24) rfl ?_
                show Steps p.tables e below (s₁.setTop (mkF m 26 #[.val (.ref a1), .val (.double (own_U uu)), .second, .val (.int (2 : Int32)), .val (.double (own_D ((0 + m1) + m2))), .second, .val (.int (3 : Int32))] [(.int (3 : Int32))])) _
                refine XS.istoreN X0.here hx rfl (hb hby d1_26) rfl (l' := #[.val (.ref a1), .val (.double (own_U uu)), .second, .val (.int (3 : Int32)), .val (.double (own_D ((0 + m1) + m2))), .second, .val (.int (3 : Int32))]) rfl ?_
                show Steps p.tables e below (s₁.setTop (mkF m 27 #[.val (.ref a1), .val (.double (own_U uu)), .second, .val (.int (3 : Int32)), .val (.double (own_D ((0 + m1) + m2))), .second, .val (.int (3 : Int32))] [])) _
                refine XS.dload X0.here hx rfl (hb hby d1_27) rfl ?_
                show Steps p.tables e below (s₁.setTop (mkF m 29 #[.val (.ref a1), .val (.double (own_U uu)), .second, .val (.int (3 : Int32)), .val (.double (own_D ((0 + m1) + m2))), .second, .val (.int (3 : Int32))] [(.double (own_D ((0 + m1) + m2)))])) _
                refine XS.aloadN X0.here hx rfl (hb hby d1_29) rfl rfl ?_
                show Steps p.tables e below (s₁.setTop (mkF m 30 #[.val (.ref a1), .val (.double (own_U uu)), .second, .val (.int (3 : Int32)), .val (.double (own_D ((0 + m1) + m2))), .second, .val (.int (3 : Int32))] [(.ref a1), (.double (own_D ((0 + m1) + m2)))])) _
                refine XS.iload X0.here hx rfl (hb hby d1_30) rfl ?_
                show Steps p.tables e below (s₁.setTop (mkF m 32 #[.val (.ref a1), .val (.double (own_U uu)), .second, .val (.int (3 : Int32)), .val (.double (own_D ((0 + m1) + m2))), .second, .val (.int (3 : Int32))] [(.int (3 : Int32)), (.ref a1), (.double (own_D ((0 + m1) + m2)))])) _
                refine X0.daload hx (j := (3 : Int32)) (v := (.double (own_D m3))) (by first | exact Ar32_62.1 | (rw [e0]; exact Ar32_62.1)) (State.isArrayOf_alike hZ.alike Ar32_62.2.1) Ar32_62.2.2 hin32_62 hat32_62 (g := (mkF m 32 #[.val (.ref a1), .val (.double (own_U uu)), .second, .val (.int (3 : Int32)), .val (.double (own_D ((0 + m1) + m2))), .second, .val (.int (3 : Int32))] [(.int (3 : Int32)), (.ref a1), (.double (own_D ((0 + m1) + m2)))])) rfl rfl (hb hby d1_32) _ ?_
                show Steps p.tables e below (s₁.setTop (mkF m 33 #[.val (.ref a1), .val (.double (own_U uu)), .second, .val (.int (3 : Int32)), .val (.double (own_D ((0 + m1) + m2))), .second, .val (.int (3 : Int32))] [(.double (own_D m3)), (.double (own_D ((0 + m1) + m2)))])) _
                refine XS.daddS X0.here hx rfl (hb hby d1_33) rfl (v := (own_D (((0 + m1) + m2) + m3))) (own_nan2 _ _ (by omega)) (own_add _ _ (by omega)) ?_
                show Steps p.tables e below (s₁.setTop (mkF m 34 #[.val (.ref a1), .val (.double (own_U uu)), .second, .val (.int (3 : Int32)), .val (.double (own_D ((0 + m1) + m2))), .second, .val (.int (3 : Int32))] [(.double (own_D (((0 + m1) + m2) + m3)))])) _
                refine XS.dstore X0.here hx rfl (hb hby d1_34) rfl (l' := #[.val (.ref a1), .val (.double (own_U uu)), .second, .val (.int (3 : Int32)), .val (.double (own_D (((0 + m1) + m2) + m3))), .second, .val (.int (3 : Int32))]) rfl ?_
                show Steps p.tables e below (s₁.setTop (mkF m 36 #[.val (.ref a1), .val (.double (own_U uu)), .second, .val (.int (3 : Int32)), .val (.double (own_D (((0 + m1) + m2) + m3))), .second, .val (.int (3 : Int32))] [])) _
                refine XS.dloadN X0.here hx rfl (hb hby d1_36) rfl ?_
                show Steps p.tables e below (s₁.setTop (mkF m 37 #[.val (.ref a1), .val (.double (own_U uu)), .second, .val (.int (3 : Int32)), .val (.double (own_D (((0 + m1) + m2) + m3))), .second, .val (.int (3 : Int32))] [(.double (own_U uu))])) _
                refine XS.dload X0.here hx rfl (hb hby d1_37) rfl ?_
                show Steps p.tables e below (s₁.setTop (mkF m 39 #[.val (.ref a1), .val (.double (own_U uu)), .second, .val (.int (3 : Int32)), .val (.double (own_D (((0 + m1) + m2) + m3))), .second, .val (.int (3 : Int32))] [(.double (own_D (((0 + m1) + m2) + m3))), (.double (own_U uu))])) _
                refine XS.dcmpS X0.here hx rfl (hb hby d1_39) rfl rfl ?_
                exact kt
              by_cases hc40_3 : uu < 16 * (((0 + m1) + m2) + m3)
              · obtain ⟨fs, hr, hrun, hended, hW, hsame⟩ := X0.leave (v := some (.int (3 : Int32))) (fun h => by rw [Bd.returns] at h; cases h)
                refine ⟨_, _, c63 _ ?_, hrun, hended, _, _, rfl, ?_, ⟨_, rfl⟩, hW, hsame.mono (by decide) (by decide)⟩
                · show Steps p.tables e below (s₁.setTop (mkF m 40 #[.val (.ref a1), .val (.double (own_U uu)), .second, .val (.int (3 : Int32)), .val (.double (own_D (((0 + m1) + m2) + m3))), .second, .val (.int (3 : Int32))] [(.int (cmpValue (FP.dcmp (own_U uu) (own_D (((0 + m1) + m2) + m3))) .g))])) _
                  refine XS.ifNo X0.here hx rfl (hb hby d1_40) rfl ((if0 _ _).trans (tlt ((own_lt uu (((0 + m1) + m2) + m3) hu (by omega)).mpr hc40_3)).2.1) ?_
                  show Steps p.tables e below (s₁.setTop (mkF m 43 #[.val (.ref a1), .val (.double (own_U uu)), .second, .val (.int (3 : Int32)), .val (.double (own_D (((0 + m1) + m2) + m3))), .second, .val (.int (3 : Int32))] [])) _
                  refine XS.goto X0.here hx rfl (pc0 := 43) (pc' := 52) rfl (hb hby d1_43) (by decide) (by decide) ?_
                  show Steps p.tables e below (s₁.setTop (mkF m 52 #[.val (.ref a1), .val (.double (own_U uu)), .second, .val (.int (3 : Int32)), .val (.double (own_D (((0 + m1) + m2) + m3))), .second, .val (.int (3 : Int32))] [])) _
                  refine XS.iloadN X0.here hx rfl (hb hby d1_52) rfl ?_
                  show Steps p.tables e below (s₁.setTop (mkF m 53 #[.val (.ref a1), .val (.double (own_U uu)), .second, .val (.int (3 : Int32)), .val (.double (own_D (((0 + m1) + m2) + m3))), .second, .val (.int (3 : Int32))] [(.int (3 : Int32))])) _
                  refine XS.ifYes X0.here hx rfl (pc0 := 53) (pc' := 66) rfl (hb hby d1_53) rfl ((if0 _ _).trans (flt (by decide)).2.1) (by decide) (by decide) ?_
                  show Steps p.tables e below (s₁.setTop (mkF m 66 #[.val (.ref a1), .val (.double (own_U uu)), .second, .val (.int (3 : Int32)), .val (.double (own_D (((0 + m1) + m2) + m3))), .second, .val (.int (3 : Int32))] [])) _
                  refine XS.iloadN X0.here hx rfl (hb hby d1_66) rfl ?_
                  show Steps p.tables e below (s₁.setTop (mkF m 67 #[.val (.ref a1), .val (.double (own_U uu)), .second, .val (.int (3 : Int32)), .val (.double (own_D (((0 + m1) + m2) + m3))), .second, .val (.int (3 : Int32))] [(.int (3 : Int32))])) _
                  exact retI X0 hx Bd.returns (hb hby d1_67) hr
                · show Q1 Z a1 kk m0 m1 m2 m3 uu h0 n0 _ s₁.heap _
                  rw [e0]
                  have hv : (own_draw m0 m1 m2 m3 uu) = (3 : Int32) := by unfold own_draw; rw [if_neg hc21, if_pos hc21_2, if_neg hc40, if_pos hc21_3, if_neg hc40_2, if_pos hc21_4]
                  exact ⟨by rw [hv], N0, rfl⟩
              · have cp11_64 := V0
                obtain ⟨cl11_64, Ar11_64, -, Sa11_64, Na11_64, -, -⟩ := cp11_64
                obtain ⟨fs, hr, hrun, hended, hW, hsame⟩ := X0.leave (v := some (.int (3 : Int32))) (fun h => by rw [Bd.returns] at h; cases h)
                refine ⟨_, _, c63 _ ?_, hrun, hended, _, _, rfl, ?_, ⟨_, rfl⟩, hW, hsame.mono (by decide) (by decide)⟩
                · show Steps p.tables e below (s₁.setTop (mkF m 40 #[.val (.ref a1), .val (.double (own_U uu)), .second, .val (.int (3 : Int32)), .val (.double (own_D (((0 + m1) + m2) + m3))), .second, .val (.int (3 : Int32))] [(.int (cmpValue (FP.dcmp (own_U uu) (own_D (((0 + m1) + m2) + m3))) .g))])) _
                  refine XS.ifYes X0.here hx rfl (pc0 := 40) (pc' := 46) rfl (hb hby d1_40) rfl ((if0 _ _).trans (flt (fun q => hc40_3 ((own_lt uu (((0 + m1) + m2) + m3) hu (by omega)).mp q))).2.1) (by decide) (by decide) ?_
                  show Steps p.tables e below (s₁.setTop (mkF m 46 #[.val (.ref a1), .val (.double (own_U uu)), .second, .val (.int (3 : Int32)), .val (.double (own_D (((0 + m1) + m2) + m3))), .second, .val (.int (3 : Int32))] [])) _
                  refine XS.iinc X0.here hx rfl (hb hby d1_46) rfl (l' := #[.val (.ref a1), .val (.double (own_U uu)), .second, .val (.int (3 : Int32)), .val (.double (own_D (((0 + m1) + m2) + m3))), .second, .val (.int (4 : Int32))]) rfl ?_
                  show Steps p.tables e below (s₁.setTop (mkF m 49 #[.val (.ref a1), .val (.double (own_U uu)), .second, .val (.int (3 : Int32)), .val (.double (own_D (((0 + m1) + m2) + m3))), .second, .val (.int (4 : Int32))] [])) _
                  refine XS.goto X0.here hx rfl (pc0 := 49) (pc' := 8) rfl (hb hby d1_49) (by decide) (by decide) ?_
                  show Steps p.tables e below (s₁.setTop (mkF m 8 #[.val (.ref a1), .val (.double (own_U uu)), .second, .val (.int (3 : Int32)), .val (.double (own_D (((0 + m1) + m2) + m3))), .second, .val (.int (4 : Int32))] [])) _
                  refine XS.iload X0.here hx rfl (hb hby d1_8) rfl ?_
                  show Steps p.tables e below (s₁.setTop (mkF m 10 #[.val (.ref a1), .val (.double (own_U uu)), .second, .val (.int (3 : Int32)), .val (.double (own_D (((0 + m1) + m2) + m3))), .second, .val (.int (4 : Int32))] [(.int (4 : Int32))])) _
                  refine XS.aloadN X0.here hx rfl (hb hby d1_10) rfl rfl ?_
                  show Steps p.tables e below (s₁.setTop (mkF m 11 #[.val (.ref a1), .val (.double (own_U uu)), .second, .val (.int (3 : Int32)), .val (.double (own_D (((0 + m1) + m2) + m3))), .second, .val (.int (4 : Int32))] [(.ref a1), (.int (4 : Int32))])) _
                  refine X0.arraylength hx (by first | exact Ar11_64.1 | (rw [e0]; exact Ar11_64.1)) (State.isArrayOf_alike hZ.alike Ar11_64.2.1) (g := (mkF m 11 #[.val (.ref a1), .val (.double (own_U uu)), .second, .val (.int (3 : Int32)), .val (.double (own_D (((0 + m1) + m2) + m3))), .second, .val (.int (4 : Int32))] [(.ref a1), (.int (4 : Int32))])) rfl rfl (hb hby d1_11) _ ?_
                  rw [len_of Sa11_64 Na11_64]
                  show Steps p.tables e below (s₁.setTop (mkF m 12 #[.val (.ref a1), .val (.double (own_U uu)), .second, .val (.int (3 : Int32)), .val (.double (own_D (((0 + m1) + m2) + m3))), .second, .val (.int (4 : Int32))] [(.int (4 : Int32)), (.int (4 : Int32))])) _
                  refine XS.icmpYes X0.here hx rfl (pc0 := 12) (pc' := 52) rfl (hb hby d1_12) rfl (flt (by decide)).2.1 (by decide) (by decide) ?_
                  show Steps p.tables e below (s₁.setTop (mkF m 52 #[.val (.ref a1), .val (.double (own_U uu)), .second, .val (.int (3 : Int32)), .val (.double (own_D (((0 + m1) + m2) + m3))), .second, .val (.int (4 : Int32))] [])) _
                  refine XS.iloadN X0.here hx rfl (hb hby d1_52) rfl ?_
                  show Steps p.tables e below (s₁.setTop (mkF m 53 #[.val (.ref a1), .val (.double (own_U uu)), .second, .val (.int (3 : Int32)), .val (.double (own_D (((0 + m1) + m2) + m3))), .second, .val (.int (4 : Int32))] [(.int (3 : Int32))])) _
                  refine XS.ifYes X0.here hx rfl (pc0 := 53) (pc' := 66) rfl (hb hby d1_53) rfl ((if0 _ _).trans (flt (by decide)).2.1) (by decide) (by decide) ?_
                  show Steps p.tables e below (s₁.setTop (mkF m 66 #[.val (.ref a1), .val (.double (own_U uu)), .second, .val (.int (3 : Int32)), .val (.double (own_D (((0 + m1) + m2) + m3))), .second, .val (.int (4 : Int32))] [])) _
                  refine XS.iloadN X0.here hx rfl (hb hby d1_66) rfl ?_
                  show Steps p.tables e below (s₁.setTop (mkF m 67 #[.val (.ref a1), .val (.double (own_U uu)), .second, .val (.int (3 : Int32)), .val (.double (own_D (((0 + m1) + m2) + m3))), .second, .val (.int (4 : Int32))] [(.int (3 : Int32))])) _
                  exact retI X0 hx Bd.returns (hb hby d1_67) hr
                · show Q1 Z a1 kk m0 m1 m2 m3 uu h0 n0 _ s₁.heap _
                  rw [e0]
                  have hv : (own_draw m0 m1 m2 m3 uu) = (3 : Int32) := by unfold own_draw; rw [if_neg hc21, if_pos hc21_2, if_neg hc40, if_pos hc21_3, if_neg hc40_2, if_pos hc21_4]
                  exact ⟨by rw [hv], N0, rfl⟩
            · have cp11_65 := V0
              obtain ⟨cl11_65, Ar11_65, -, Sa11_65, Na11_65, -, -⟩ := cp11_65
              obtain ⟨fs, hr, hrun, hended, hW, hsame⟩ := X0.leave (v := some (.int (2 : Int32))) (fun h => by rw [Bd.returns] at h; cases h)
              refine ⟨_, _, c61 _ ?_, hrun, hended, _, _, rfl, ?_, ⟨_, rfl⟩, hW, hsame.mono (by decide) (by decide)⟩
              · show Steps p.tables e below (s₁.setTop (mkF m 21 #[.val (.ref a1), .val (.double (own_U uu)), .second, .val (.int (2 : Int32)), .val (.double (own_D ((0 + m1) + m2))), .second, .val (.int (3 : Int32))] [(.int (cmpValue (FP.dcmp (own_D m3) (own_D 0)) .l))])) _
                refine XS.ifYes X0.here hx rfl (pc0 := 21) (pc' := 46) rfl (hb hby d1_21) rfl ((if0 _ _).trans (flt (fun q => hc21_4 ((own_gt m3 (by omega)).mp q))).2.2.2) (by decide) (by decide) ?_
                show Steps p.tables e below (s₁.setTop (mkF m 46 #[.val (.ref a1), .val (.double (own_U uu)), .second, .val (.int (2 : Int32)), .val (.double (own_D ((0 + m1) + m2))), .second, .val (.int (3 : Int32))] [])) _
                refine XS.iinc X0.here hx rfl (hb hby d1_46) rfl (l' := #[.val (.ref a1), .val (.double (own_U uu)), .second, .val (.int (2 : Int32)), .val (.double (own_D ((0 + m1) + m2))), .second, .val (.int (4 : Int32))]) rfl ?_
                show Steps p.tables e below (s₁.setTop (mkF m 49 #[.val (.ref a1), .val (.double (own_U uu)), .second, .val (.int (2 : Int32)), .val (.double (own_D ((0 + m1) + m2))), .second, .val (.int (4 : Int32))] [])) _
                refine XS.goto X0.here hx rfl (pc0 := 49) (pc' := 8) rfl (hb hby d1_49) (by decide) (by decide) ?_
                show Steps p.tables e below (s₁.setTop (mkF m 8 #[.val (.ref a1), .val (.double (own_U uu)), .second, .val (.int (2 : Int32)), .val (.double (own_D ((0 + m1) + m2))), .second, .val (.int (4 : Int32))] [])) _
                refine XS.iload X0.here hx rfl (hb hby d1_8) rfl ?_
                show Steps p.tables e below (s₁.setTop (mkF m 10 #[.val (.ref a1), .val (.double (own_U uu)), .second, .val (.int (2 : Int32)), .val (.double (own_D ((0 + m1) + m2))), .second, .val (.int (4 : Int32))] [(.int (4 : Int32))])) _
                refine XS.aloadN X0.here hx rfl (hb hby d1_10) rfl rfl ?_
                show Steps p.tables e below (s₁.setTop (mkF m 11 #[.val (.ref a1), .val (.double (own_U uu)), .second, .val (.int (2 : Int32)), .val (.double (own_D ((0 + m1) + m2))), .second, .val (.int (4 : Int32))] [(.ref a1), (.int (4 : Int32))])) _
                refine X0.arraylength hx (by first | exact Ar11_65.1 | (rw [e0]; exact Ar11_65.1)) (State.isArrayOf_alike hZ.alike Ar11_65.2.1) (g := (mkF m 11 #[.val (.ref a1), .val (.double (own_U uu)), .second, .val (.int (2 : Int32)), .val (.double (own_D ((0 + m1) + m2))), .second, .val (.int (4 : Int32))] [(.ref a1), (.int (4 : Int32))])) rfl rfl (hb hby d1_11) _ ?_
                rw [len_of Sa11_65 Na11_65]
                show Steps p.tables e below (s₁.setTop (mkF m 12 #[.val (.ref a1), .val (.double (own_U uu)), .second, .val (.int (2 : Int32)), .val (.double (own_D ((0 + m1) + m2))), .second, .val (.int (4 : Int32))] [(.int (4 : Int32)), (.int (4 : Int32))])) _
                refine XS.icmpYes X0.here hx rfl (pc0 := 12) (pc' := 52) rfl (hb hby d1_12) rfl (flt (by decide)).2.1 (by decide) (by decide) ?_
                show Steps p.tables e below (s₁.setTop (mkF m 52 #[.val (.ref a1), .val (.double (own_U uu)), .second, .val (.int (2 : Int32)), .val (.double (own_D ((0 + m1) + m2))), .second, .val (.int (4 : Int32))] [])) _
                refine XS.iloadN X0.here hx rfl (hb hby d1_52) rfl ?_
                show Steps p.tables e below (s₁.setTop (mkF m 53 #[.val (.ref a1), .val (.double (own_U uu)), .second, .val (.int (2 : Int32)), .val (.double (own_D ((0 + m1) + m2))), .second, .val (.int (4 : Int32))] [(.int (2 : Int32))])) _
                refine XS.ifYes X0.here hx rfl (pc0 := 53) (pc' := 66) rfl (hb hby d1_53) rfl ((if0 _ _).trans (flt (by decide)).2.1) (by decide) (by decide) ?_
                show Steps p.tables e below (s₁.setTop (mkF m 66 #[.val (.ref a1), .val (.double (own_U uu)), .second, .val (.int (2 : Int32)), .val (.double (own_D ((0 + m1) + m2))), .second, .val (.int (4 : Int32))] [])) _
                refine XS.iloadN X0.here hx rfl (hb hby d1_66) rfl ?_
                show Steps p.tables e below (s₁.setTop (mkF m 67 #[.val (.ref a1), .val (.double (own_U uu)), .second, .val (.int (2 : Int32)), .val (.double (own_D ((0 + m1) + m2))), .second, .val (.int (4 : Int32))] [(.int (2 : Int32))])) _
                exact retI X0 hx Bd.returns (hb hby d1_67) hr
              · show Q1 Z a1 kk m0 m1 m2 m3 uu h0 n0 _ s₁.heap _
                rw [e0]
                have hv : (own_draw m0 m1 m2 m3 uu) = (2 : Int32) := by unfold own_draw; rw [if_neg hc21, if_pos hc21_2, if_neg hc40, if_pos hc21_3, if_neg hc40_2, if_neg hc21_4]
                exact ⟨by rw [hv], N0, rfl⟩
        · have cp11_66 := V0
          obtain ⟨cl11_66, Ar11_66, -, Sa11_66, Na11_66, -, -⟩ := cp11_66
          have cp18_67 := V0
          obtain ⟨cl18_67, Ar18_67, -, Sa18_67, Na18_67, Ha18_67, -⟩ := cp18_67
          have hin18_67 : ¬ ((3 : Int32) < 0 ∨ cl18_67.slots.size ≤ ((3 : Int32)).toNatClampNeg) := inb_of Sa18_67 ⟨by decide, by decide⟩
          have hat18_67 : cl18_67.slots[((3 : Int32)).toNatClampNeg]? = some (.double (own_D m3)) := Ha18_67.at hin18_67 rfl
          have c68 : ∀ t, Steps p.tables e below (s₁.setTop (mkF m 21 #[.val (.ref a1), .val (.double (own_U uu)), .second, .val (.int (1 : Int32)), .val (.double (own_D (0 + m1))), .second, .val (.int (3 : Int32))] [(.int (cmpValue (FP.dcmp (own_D m3) (own_D 0)) .l))])) t → Steps p.tables e below (s₁.setTop (entryFrame m #[(.ref a1), (.double (own_U uu))] 7)) t := fun t kt => by
            refine c56 _ ?_
            show Steps p.tables e below (s₁.setTop (mkF m 21 #[.val (.ref a1), .val (.double (own_U uu)), .second, .val (.int (1 : Int32)), .val (.double (own_D (0 + m1))), .second, .val (.int (2 : Int32))] [(.int (cmpValue (FP.dcmp (own_D m2) (own_D 0)) .l))])) _
            refine XS.ifYes X0.here hx rfl (pc0 := 21) (pc' := 46) rfl (hb hby d1_21) rfl ((if0 _ _).trans (flt (fun q => hc21_3 ((own_gt m2 (by omega)).mp q))).2.2.2) (by decide) (by decide) ?_
            show Steps p.tables e below (s₁.setTop (mkF m 46 #[.val (.ref a1), .val (.double (own_U uu)), .second, .val (.int (1 : Int32)), .val (.double (own_D (0 + m1))), .second, .val (.int (2 : Int32))] [])) _
            refine XS.iinc X0.here hx rfl (hb hby d1_46) rfl (l' := #[.val (.ref a1), .val (.double (own_U uu)), .second, .val (.int (1 : Int32)), .val (.double (own_D (0 + m1))), .second, .val (.int (3 : Int32))]) rfl ?_
            show Steps p.tables e below (s₁.setTop (mkF m 49 #[.val (.ref a1), .val (.double (own_U uu)), .second, .val (.int (1 : Int32)), .val (.double (own_D (0 + m1))), .second, .val (.int (3 : Int32))] [])) _
            refine XS.goto X0.here hx rfl (pc0 := 49) (pc' := 8) rfl (hb hby d1_49) (by decide) (by decide) ?_
            show Steps p.tables e below (s₁.setTop (mkF m 8 #[.val (.ref a1), .val (.double (own_U uu)), .second, .val (.int (1 : Int32)), .val (.double (own_D (0 + m1))), .second, .val (.int (3 : Int32))] [])) _
            refine XS.iload X0.here hx rfl (hb hby d1_8) rfl ?_
            show Steps p.tables e below (s₁.setTop (mkF m 10 #[.val (.ref a1), .val (.double (own_U uu)), .second, .val (.int (1 : Int32)), .val (.double (own_D (0 + m1))), .second, .val (.int (3 : Int32))] [(.int (3 : Int32))])) _
            refine XS.aloadN X0.here hx rfl (hb hby d1_10) rfl rfl ?_
            show Steps p.tables e below (s₁.setTop (mkF m 11 #[.val (.ref a1), .val (.double (own_U uu)), .second, .val (.int (1 : Int32)), .val (.double (own_D (0 + m1))), .second, .val (.int (3 : Int32))] [(.ref a1), (.int (3 : Int32))])) _
            refine X0.arraylength hx (by first | exact Ar11_66.1 | (rw [e0]; exact Ar11_66.1)) (State.isArrayOf_alike hZ.alike Ar11_66.2.1) (g := (mkF m 11 #[.val (.ref a1), .val (.double (own_U uu)), .second, .val (.int (1 : Int32)), .val (.double (own_D (0 + m1))), .second, .val (.int (3 : Int32))] [(.ref a1), (.int (3 : Int32))])) rfl rfl (hb hby d1_11) _ ?_
            rw [len_of Sa11_66 Na11_66]
            show Steps p.tables e below (s₁.setTop (mkF m 12 #[.val (.ref a1), .val (.double (own_U uu)), .second, .val (.int (1 : Int32)), .val (.double (own_D (0 + m1))), .second, .val (.int (3 : Int32))] [(.int (4 : Int32)), (.int (3 : Int32))])) _
            refine XS.icmpNo X0.here hx rfl (hb hby d1_12) rfl (tlt (by decide)).2.1 ?_
            show Steps p.tables e below (s₁.setTop (mkF m 15 #[.val (.ref a1), .val (.double (own_U uu)), .second, .val (.int (1 : Int32)), .val (.double (own_D (0 + m1))), .second, .val (.int (3 : Int32))] [])) _
            refine XS.aloadN X0.here hx rfl (hb hby d1_15) rfl rfl ?_
            show Steps p.tables e below (s₁.setTop (mkF m 16 #[.val (.ref a1), .val (.double (own_U uu)), .second, .val (.int (1 : Int32)), .val (.double (own_D (0 + m1))), .second, .val (.int (3 : Int32))] [(.ref a1)])) _
            refine XS.iload X0.here hx rfl (hb hby d1_16) rfl ?_
            show Steps p.tables e below (s₁.setTop (mkF m 18 #[.val (.ref a1), .val (.double (own_U uu)), .second, .val (.int (1 : Int32)), .val (.double (own_D (0 + m1))), .second, .val (.int (3 : Int32))] [(.int (3 : Int32)), (.ref a1)])) _
            refine X0.daload hx (j := (3 : Int32)) (v := (.double (own_D m3))) (by first | exact Ar18_67.1 | (rw [e0]; exact Ar18_67.1)) (State.isArrayOf_alike hZ.alike Ar18_67.2.1) Ar18_67.2.2 hin18_67 hat18_67 (g := (mkF m 18 #[.val (.ref a1), .val (.double (own_U uu)), .second, .val (.int (1 : Int32)), .val (.double (own_D (0 + m1))), .second, .val (.int (3 : Int32))] [(.int (3 : Int32)), (.ref a1)])) rfl rfl (hb hby d1_18) _ ?_
            show Steps p.tables e below (s₁.setTop (mkF m 19 #[.val (.ref a1), .val (.double (own_U uu)), .second, .val (.int (1 : Int32)), .val (.double (own_D (0 + m1))), .second, .val (.int (3 : Int32))] [(.double (own_D m3))])) _
            refine XS.dconst0 X0.here hx rfl (v := (own_D 0)) (hb hby d1_19) own_D0 ?_
            show Steps p.tables e below (s₁.setTop (mkF m 20 #[.val (.ref a1), .val (.double (own_U uu)), .second, .val (.int (1 : Int32)), .val (.double (own_D (0 + m1))), .second, .val (.int (3 : Int32))] [(.double (own_D 0)), (.double (own_D m3))])) _
            refine XS.dcmpS X0.here hx rfl (hb hby d1_20) rfl rfl ?_
            exact kt
          by_cases hc21_4 : 0 < m3
          · have cp32_69 := V0
            obtain ⟨cl32_69, Ar32_69, -, Sa32_69, Na32_69, Ha32_69, -⟩ := cp32_69
            have hin32_69 : ¬ ((3 : Int32) < 0 ∨ cl32_69.slots.size ≤ ((3 : Int32)).toNatClampNeg) := inb_of Sa32_69 ⟨by decide, by decide⟩
            have hat32_69 : cl32_69.slots[((3 : Int32)).toNatClampNeg]? = some (.double (own_D m3)) := Ha32_69.at hin32_69 rfl
            have c70 : ∀ t, Steps p.tables e below (s₁.setTop (mkF m 40 #[.val (.ref a1), .val (.double (own_U uu)), .second, .val (.int (3 : Int32)), .val (.double (own_D ((0 + m1) + m3))), .second, .val (.int (3 : Int32))] [(.int (cmpValue (FP.dcmp (own_U uu) (own_D ((0 + m1) + m3))) .g))])) t → Steps p.tables e below (s₁.setTop (entryFrame m #[(.ref a1), (.double (own_U uu))] 7)) t := fun t kt => by
              refine c68 _ ?_
              show Steps p.tables e below (s₁.setTop (mkF m 21 #[.val (.ref a1), .val (.double (own_U uu)), .second, .val (.int (1 : Int32)), .val (.double (own_D (0 + m1))), .second, .val (.int (3 : Int32))] [(.int (cmpValue (FP.dcmp (own_D m3) (own_D 0)) .l))])) _
              refine XS.ifNo X0.here hx rfl (hb hby d1_21) rfl ((if0 _ _).trans (tlt ((own_gt m3 (by omega)).mpr hc21_4)).2.2.2) ?_
              show Steps p.tables e below (s₁.setTop (mkF m 24 #[.val (.ref a1), .val (.double (own_U uu)), .second, .val (.int (1 : Int32)), .val (.double (own_D (0 + m1))), .second, .val (.int (3 : Int32))] [])) _
              refine XS.iload X0.here hx rfl (hb hby d1_24) rfl ?_
              show Steps p.tables e below (s₁.setTop (mkF m 26 #[.val (.ref a1), .val (.double (own_U uu)), .second, .val (.int (1 : Int32)), .val (.double (own_D (0 + m1))), .second, .val (.int (3 : Int32))] [(.int (3 : Int32))])) _
              refine XS.istoreN X0.here hx rfl (hb hby d1_26) rfl (l' := #[.val (.ref a1), .val (.double (own_U uu)), .second, .val (.int (3 : Int32)), .val (.double (own_D (0 + m1))), .second, .val (.int (3 : Int32))]) rfl ?_
              show Steps p.tables e below (s₁.setTop (mkF m 27 #[.val (.ref a1), .val (.double (own_U uu)), .second, .val (.int (3 : Int32)), .val (.double (own_D (0 + m1))), .second, .val (.int (3 : Int32))] [])) _
              refine XS.dload X0.here hx rfl (hb hby d1_27) rfl ?_
              show Steps p.tables e below (s₁.setTop (mkF m 29 #[.val (.ref a1), .val (.double (own_U uu)), .second, .val (.int (3 : Int32)), .val (.double (own_D (0 + m1))), .second, .val (.int (3 : Int32))] [(.double (own_D (0 + m1)))])) _
              refine XS.aloadN X0.here hx rfl (hb hby d1_29) rfl rfl ?_
              show Steps p.tables e below (s₁.setTop (mkF m 30 #[.val (.ref a1), .val (.double (own_U uu)), .second, .val (.int (3 : Int32)), .val (.double (own_D (0 + m1))), .second, .val (.int (3 : Int32))] [(.ref a1), (.double (own_D (0 + m1)))])) _
              refine XS.iload X0.here hx rfl (hb hby d1_30) rfl ?_
              show Steps p.tables e below (s₁.setTop (mkF m 32 #[.val (.ref a1), .val (.double (own_U uu)), .second, .val (.int (3 : Int32)), .val (.double (own_D (0 + m1))), .second, .val (.int (3 : Int32))] [(.int (3 : Int32)), (.ref a1), (.double (own_D (0 + m1)))])) _
              refine X0.daload hx (j := (3 : Int32)) (v := (.double (own_D m3))) (by first | exact Ar32_69.1 | (rw [e0]; exact Ar32_69.1)) (State.isArrayOf_alike hZ.alike Ar32_69.2.1) Ar32_69.2.2 hin32_69 hat32_69 (g := (mkF m 32 #[.val (.ref a1), .val (.double (own_U uu)), .second, .val (.int (3 : Int32)), .val (.double (own_D (0 + m1))), .second, .val (.int (3 : Int32))] [(.int (3 : Int32)), (.ref a1), (.double (own_D (0 + m1)))])) rfl rfl (hb hby d1_32) _ ?_
              show Steps p.tables e below (s₁.setTop (mkF m 33 #[.val (.ref a1), .val (.double (own_U uu)), .second, .val (.int (3 : Int32)), .val (.double (own_D (0 + m1))), .second, .val (.int (3 : Int32))] [(.double (own_D m3)), (.double (own_D (0 + m1)))])) _
              refine XS.daddS X0.here hx rfl (hb hby d1_33) rfl (v := (own_D ((0 + m1) + m3))) (own_nan2 _ _ (by omega)) (own_add _ _ (by omega)) ?_
              show Steps p.tables e below (s₁.setTop (mkF m 34 #[.val (.ref a1), .val (.double (own_U uu)), .second, .val (.int (3 : Int32)), .val (.double (own_D (0 + m1))), .second, .val (.int (3 : Int32))] [(.double (own_D ((0 + m1) + m3)))])) _
              refine XS.dstore X0.here hx rfl (hb hby d1_34) rfl (l' := #[.val (.ref a1), .val (.double (own_U uu)), .second, .val (.int (3 : Int32)), .val (.double (own_D ((0 + m1) + m3))), .second, .val (.int (3 : Int32))]) rfl ?_
              show Steps p.tables e below (s₁.setTop (mkF m 36 #[.val (.ref a1), .val (.double (own_U uu)), .second, .val (.int (3 : Int32)), .val (.double (own_D ((0 + m1) + m3))), .second, .val (.int (3 : Int32))] [])) _
              refine XS.dloadN X0.here hx rfl (hb hby d1_36) rfl ?_
              show Steps p.tables e below (s₁.setTop (mkF m 37 #[.val (.ref a1), .val (.double (own_U uu)), .second, .val (.int (3 : Int32)), .val (.double (own_D ((0 + m1) + m3))), .second, .val (.int (3 : Int32))] [(.double (own_U uu))])) _
              refine XS.dload X0.here hx rfl (hb hby d1_37) rfl ?_
              show Steps p.tables e below (s₁.setTop (mkF m 39 #[.val (.ref a1), .val (.double (own_U uu)), .second, .val (.int (3 : Int32)), .val (.double (own_D ((0 + m1) + m3))), .second, .val (.int (3 : Int32))] [(.double (own_D ((0 + m1) + m3))), (.double (own_U uu))])) _
              refine XS.dcmpS X0.here hx rfl (hb hby d1_39) rfl rfl ?_
              exact kt
            by_cases hc40_2 : uu < 16 * ((0 + m1) + m3)
            · obtain ⟨fs, hr, hrun, hended, hW, hsame⟩ := X0.leave (v := some (.int (3 : Int32))) (fun h => by rw [Bd.returns] at h; cases h)
              refine ⟨_, _, c70 _ ?_, hrun, hended, _, _, rfl, ?_, ⟨_, rfl⟩, hW, hsame.mono (by decide) (by decide)⟩
              · show Steps p.tables e below (s₁.setTop (mkF m 40 #[.val (.ref a1), .val (.double (own_U uu)), .second, .val (.int (3 : Int32)), .val (.double (own_D ((0 + m1) + m3))), .second, .val (.int (3 : Int32))] [(.int (cmpValue (FP.dcmp (own_U uu) (own_D ((0 + m1) + m3))) .g))])) _
                refine XS.ifNo X0.here hx rfl (hb hby d1_40) rfl ((if0 _ _).trans (tlt ((own_lt uu ((0 + m1) + m3) hu (by omega)).mpr hc40_2)).2.1) ?_
                show Steps p.tables e below (s₁.setTop (mkF m 43 #[.val (.ref a1), .val (.double (own_U uu)), .second, .val (.int (3 : Int32)), .val (.double (own_D ((0 + m1) + m3))), .second, .val (.int (3 : Int32))] [])) _
                refine XS.goto X0.here hx rfl (pc0 := 43) (pc' := 52) rfl (hb hby d1_43) (by decide) (by decide) ?_
                show Steps p.tables e below (s₁.setTop (mkF m 52 #[.val (.ref a1), .val (.double (own_U uu)), .second, .val (.int (3 : Int32)), .val (.double (own_D ((0 + m1) + m3))), .second, .val (.int (3 : Int32))] [])) _
                refine XS.iloadN X0.here hx rfl (hb hby d1_52) rfl ?_
                show Steps p.tables e below (s₁.setTop (mkF m 53 #[.val (.ref a1), .val (.double (own_U uu)), .second, .val (.int (3 : Int32)), .val (.double (own_D ((0 + m1) + m3))), .second, .val (.int (3 : Int32))] [(.int (3 : Int32))])) _
                refine XS.ifYes X0.here hx rfl (pc0 := 53) (pc' := 66) rfl (hb hby d1_53) rfl ((if0 _ _).trans (flt (by decide)).2.1) (by decide) (by decide) ?_
                show Steps p.tables e below (s₁.setTop (mkF m 66 #[.val (.ref a1), .val (.double (own_U uu)), .second, .val (.int (3 : Int32)), .val (.double (own_D ((0 + m1) + m3))), .second, .val (.int (3 : Int32))] [])) _
                refine XS.iloadN X0.here hx rfl (hb hby d1_66) rfl ?_
                show Steps p.tables e below (s₁.setTop (mkF m 67 #[.val (.ref a1), .val (.double (own_U uu)), .second, .val (.int (3 : Int32)), .val (.double (own_D ((0 + m1) + m3))), .second, .val (.int (3 : Int32))] [(.int (3 : Int32))])) _
                exact retI X0 hx Bd.returns (hb hby d1_67) hr
              · show Q1 Z a1 kk m0 m1 m2 m3 uu h0 n0 _ s₁.heap _
                rw [e0]
                have hv : (own_draw m0 m1 m2 m3 uu) = (3 : Int32) := by unfold own_draw; rw [if_neg hc21, if_pos hc21_2, if_neg hc40, if_neg hc21_3, if_pos hc21_4]
                exact ⟨by rw [hv], N0, rfl⟩
            · have cp11_71 := V0
              obtain ⟨cl11_71, Ar11_71, -, Sa11_71, Na11_71, -, -⟩ := cp11_71
              obtain ⟨fs, hr, hrun, hended, hW, hsame⟩ := X0.leave (v := some (.int (3 : Int32))) (fun h => by rw [Bd.returns] at h; cases h)
              refine ⟨_, _, c70 _ ?_, hrun, hended, _, _, rfl, ?_, ⟨_, rfl⟩, hW, hsame.mono (by decide) (by decide)⟩
              · show Steps p.tables e below (s₁.setTop (mkF m 40 #[.val (.ref a1), .val (.double (own_U uu)), .second, .val (.int (3 : Int32)), .val (.double (own_D ((0 + m1) + m3))), .second, .val (.int (3 : Int32))] [(.int (cmpValue (FP.dcmp (own_U uu) (own_D ((0 + m1) + m3))) .g))])) _
                refine XS.ifYes X0.here hx rfl (pc0 := 40) (pc' := 46) rfl (hb hby d1_40) rfl ((if0 _ _).trans (flt (fun q => hc40_2 ((own_lt uu ((0 + m1) + m3) hu (by omega)).mp q))).2.1) (by decide) (by decide) ?_
                show Steps p.tables e below (s₁.setTop (mkF m 46 #[.val (.ref a1), .val (.double (own_U uu)), .second, .val (.int (3 : Int32)), .val (.double (own_D ((0 + m1) + m3))), .second, .val (.int (3 : Int32))] [])) _
                refine XS.iinc X0.here hx rfl (hb hby d1_46) rfl (l' := #[.val (.ref a1), .val (.double (own_U uu)), .second, .val (.int (3 : Int32)), .val (.double (own_D ((0 + m1) + m3))), .second, .val (.int (4 : Int32))]) rfl ?_
                show Steps p.tables e below (s₁.setTop (mkF m 49 #[.val (.ref a1), .val (.double (own_U uu)), .second, .val (.int (3 : Int32)), .val (.double (own_D ((0 + m1) + m3))), .second, .val (.int (4 : Int32))] [])) _
                refine XS.goto X0.here hx rfl (pc0 := 49) (pc' := 8) rfl (hb hby d1_49) (by decide) (by decide) ?_
                show Steps p.tables e below (s₁.setTop (mkF m 8 #[.val (.ref a1), .val (.double (own_U uu)), .second, .val (.int (3 : Int32)), .val (.double (own_D ((0 + m1) + m3))), .second, .val (.int (4 : Int32))] [])) _
                refine XS.iload X0.here hx rfl (hb hby d1_8) rfl ?_
                show Steps p.tables e below (s₁.setTop (mkF m 10 #[.val (.ref a1), .val (.double (own_U uu)), .second, .val (.int (3 : Int32)), .val (.double (own_D ((0 + m1) + m3))), .second, .val (.int (4 : Int32))] [(.int (4 : Int32))])) _
                refine XS.aloadN X0.here hx rfl (hb hby d1_10) rfl rfl ?_
                show Steps p.tables e below (s₁.setTop (mkF m 11 #[.val (.ref a1), .val (.double (own_U uu)), .second, .val (.int (3 : Int32)), .val (.double (own_D ((0 + m1) + m3))), .second, .val (.int (4 : Int32))] [(.ref a1), (.int (4 : Int32))])) _
                refine X0.arraylength hx (by first | exact Ar11_71.1 | (rw [e0]; exact Ar11_71.1)) (State.isArrayOf_alike hZ.alike Ar11_71.2.1) (g := (mkF m 11 #[.val (.ref a1), .val (.double (own_U uu)), .second, .val (.int (3 : Int32)), .val (.double (own_D ((0 + m1) + m3))), .second, .val (.int (4 : Int32))] [(.ref a1), (.int (4 : Int32))])) rfl rfl (hb hby d1_11) _ ?_
                rw [len_of Sa11_71 Na11_71]
                show Steps p.tables e below (s₁.setTop (mkF m 12 #[.val (.ref a1), .val (.double (own_U uu)), .second, .val (.int (3 : Int32)), .val (.double (own_D ((0 + m1) + m3))), .second, .val (.int (4 : Int32))] [(.int (4 : Int32)), (.int (4 : Int32))])) _
                refine XS.icmpYes X0.here hx rfl (pc0 := 12) (pc' := 52) rfl (hb hby d1_12) rfl (flt (by decide)).2.1 (by decide) (by decide) ?_
                show Steps p.tables e below (s₁.setTop (mkF m 52 #[.val (.ref a1), .val (.double (own_U uu)), .second, .val (.int (3 : Int32)), .val (.double (own_D ((0 + m1) + m3))), .second, .val (.int (4 : Int32))] [])) _
                refine XS.iloadN X0.here hx rfl (hb hby d1_52) rfl ?_
                show Steps p.tables e below (s₁.setTop (mkF m 53 #[.val (.ref a1), .val (.double (own_U uu)), .second, .val (.int (3 : Int32)), .val (.double (own_D ((0 + m1) + m3))), .second, .val (.int (4 : Int32))] [(.int (3 : Int32))])) _
                refine XS.ifYes X0.here hx rfl (pc0 := 53) (pc' := 66) rfl (hb hby d1_53) rfl ((if0 _ _).trans (flt (by decide)).2.1) (by decide) (by decide) ?_
                show Steps p.tables e below (s₁.setTop (mkF m 66 #[.val (.ref a1), .val (.double (own_U uu)), .second, .val (.int (3 : Int32)), .val (.double (own_D ((0 + m1) + m3))), .second, .val (.int (4 : Int32))] [])) _
                refine XS.iloadN X0.here hx rfl (hb hby d1_66) rfl ?_
                show Steps p.tables e below (s₁.setTop (mkF m 67 #[.val (.ref a1), .val (.double (own_U uu)), .second, .val (.int (3 : Int32)), .val (.double (own_D ((0 + m1) + m3))), .second, .val (.int (4 : Int32))] [(.int (3 : Int32))])) _
                exact retI X0 hx Bd.returns (hb hby d1_67) hr
              · show Q1 Z a1 kk m0 m1 m2 m3 uu h0 n0 _ s₁.heap _
                rw [e0]
                have hv : (own_draw m0 m1 m2 m3 uu) = (3 : Int32) := by unfold own_draw; rw [if_neg hc21, if_pos hc21_2, if_neg hc40, if_neg hc21_3, if_pos hc21_4]
                exact ⟨by rw [hv], N0, rfl⟩
          · have cp11_72 := V0
            obtain ⟨cl11_72, Ar11_72, -, Sa11_72, Na11_72, -, -⟩ := cp11_72
            obtain ⟨fs, hr, hrun, hended, hW, hsame⟩ := X0.leave (v := some (.int (1 : Int32))) (fun h => by rw [Bd.returns] at h; cases h)
            refine ⟨_, _, c68 _ ?_, hrun, hended, _, _, rfl, ?_, ⟨_, rfl⟩, hW, hsame.mono (by decide) (by decide)⟩
            · show Steps p.tables e below (s₁.setTop (mkF m 21 #[.val (.ref a1), .val (.double (own_U uu)), .second, .val (.int (1 : Int32)), .val (.double (own_D (0 + m1))), .second, .val (.int (3 : Int32))] [(.int (cmpValue (FP.dcmp (own_D m3) (own_D 0)) .l))])) _
              refine XS.ifYes X0.here hx rfl (pc0 := 21) (pc' := 46) rfl (hb hby d1_21) rfl ((if0 _ _).trans (flt (fun q => hc21_4 ((own_gt m3 (by omega)).mp q))).2.2.2) (by decide) (by decide) ?_
              show Steps p.tables e below (s₁.setTop (mkF m 46 #[.val (.ref a1), .val (.double (own_U uu)), .second, .val (.int (1 : Int32)), .val (.double (own_D (0 + m1))), .second, .val (.int (3 : Int32))] [])) _
              refine XS.iinc X0.here hx rfl (hb hby d1_46) rfl (l' := #[.val (.ref a1), .val (.double (own_U uu)), .second, .val (.int (1 : Int32)), .val (.double (own_D (0 + m1))), .second, .val (.int (4 : Int32))]) rfl ?_
              show Steps p.tables e below (s₁.setTop (mkF m 49 #[.val (.ref a1), .val (.double (own_U uu)), .second, .val (.int (1 : Int32)), .val (.double (own_D (0 + m1))), .second, .val (.int (4 : Int32))] [])) _
              refine XS.goto X0.here hx rfl (pc0 := 49) (pc' := 8) rfl (hb hby d1_49) (by decide) (by decide) ?_
              show Steps p.tables e below (s₁.setTop (mkF m 8 #[.val (.ref a1), .val (.double (own_U uu)), .second, .val (.int (1 : Int32)), .val (.double (own_D (0 + m1))), .second, .val (.int (4 : Int32))] [])) _
              refine XS.iload X0.here hx rfl (hb hby d1_8) rfl ?_
              show Steps p.tables e below (s₁.setTop (mkF m 10 #[.val (.ref a1), .val (.double (own_U uu)), .second, .val (.int (1 : Int32)), .val (.double (own_D (0 + m1))), .second, .val (.int (4 : Int32))] [(.int (4 : Int32))])) _
              refine XS.aloadN X0.here hx rfl (hb hby d1_10) rfl rfl ?_
              show Steps p.tables e below (s₁.setTop (mkF m 11 #[.val (.ref a1), .val (.double (own_U uu)), .second, .val (.int (1 : Int32)), .val (.double (own_D (0 + m1))), .second, .val (.int (4 : Int32))] [(.ref a1), (.int (4 : Int32))])) _
              refine X0.arraylength hx (by first | exact Ar11_72.1 | (rw [e0]; exact Ar11_72.1)) (State.isArrayOf_alike hZ.alike Ar11_72.2.1) (g := (mkF m 11 #[.val (.ref a1), .val (.double (own_U uu)), .second, .val (.int (1 : Int32)), .val (.double (own_D (0 + m1))), .second, .val (.int (4 : Int32))] [(.ref a1), (.int (4 : Int32))])) rfl rfl (hb hby d1_11) _ ?_
              rw [len_of Sa11_72 Na11_72]
              show Steps p.tables e below (s₁.setTop (mkF m 12 #[.val (.ref a1), .val (.double (own_U uu)), .second, .val (.int (1 : Int32)), .val (.double (own_D (0 + m1))), .second, .val (.int (4 : Int32))] [(.int (4 : Int32)), (.int (4 : Int32))])) _
              refine XS.icmpYes X0.here hx rfl (pc0 := 12) (pc' := 52) rfl (hb hby d1_12) rfl (flt (by decide)).2.1 (by decide) (by decide) ?_
              show Steps p.tables e below (s₁.setTop (mkF m 52 #[.val (.ref a1), .val (.double (own_U uu)), .second, .val (.int (1 : Int32)), .val (.double (own_D (0 + m1))), .second, .val (.int (4 : Int32))] [])) _
              refine XS.iloadN X0.here hx rfl (hb hby d1_52) rfl ?_
              show Steps p.tables e below (s₁.setTop (mkF m 53 #[.val (.ref a1), .val (.double (own_U uu)), .second, .val (.int (1 : Int32)), .val (.double (own_D (0 + m1))), .second, .val (.int (4 : Int32))] [(.int (1 : Int32))])) _
              refine XS.ifYes X0.here hx rfl (pc0 := 53) (pc' := 66) rfl (hb hby d1_53) rfl ((if0 _ _).trans (flt (by decide)).2.1) (by decide) (by decide) ?_
              show Steps p.tables e below (s₁.setTop (mkF m 66 #[.val (.ref a1), .val (.double (own_U uu)), .second, .val (.int (1 : Int32)), .val (.double (own_D (0 + m1))), .second, .val (.int (4 : Int32))] [])) _
              refine XS.iloadN X0.here hx rfl (hb hby d1_66) rfl ?_
              show Steps p.tables e below (s₁.setTop (mkF m 67 #[.val (.ref a1), .val (.double (own_U uu)), .second, .val (.int (1 : Int32)), .val (.double (own_D (0 + m1))), .second, .val (.int (4 : Int32))] [(.int (1 : Int32))])) _
              exact retI X0 hx Bd.returns (hb hby d1_67) hr
            · show Q1 Z a1 kk m0 m1 m2 m3 uu h0 n0 _ s₁.heap _
              rw [e0]
              have hv : (own_draw m0 m1 m2 m3 uu) = (1 : Int32) := by unfold own_draw; rw [if_neg hc21, if_pos hc21_2, if_neg hc40, if_neg hc21_3, if_neg hc21_4]
              exact ⟨by rw [hv], N0, rfl⟩
    · have cp11_73 := V0
      obtain ⟨cl11_73, Ar11_73, -, Sa11_73, Na11_73, -, -⟩ := cp11_73
      have cp18_74 := V0
      obtain ⟨cl18_74, Ar18_74, -, Sa18_74, Na18_74, Ha18_74, -⟩ := cp18_74
      have hin18_74 : ¬ ((2 : Int32) < 0 ∨ cl18_74.slots.size ≤ ((2 : Int32)).toNatClampNeg) := inb_of Sa18_74 ⟨by decide, by decide⟩
      have hat18_74 : cl18_74.slots[((2 : Int32)).toNatClampNeg]? = some (.double (own_D m2)) := Ha18_74.at hin18_74 rfl
      have c75 : ∀ t, Steps p.tables e below (s₁.setTop (mkF m 21 #[.val (.ref a1), .val (.double (own_U uu)), .second, .val (.int (-1 : Int32)), .val (.double (own_D 0)), .second, .val (.int (2 : Int32))] [(.int (cmpValue (FP.dcmp (own_D m2) (own_D 0)) .l))])) t → Steps p.tables e below (s₁.setTop (entryFrame m #[(.ref a1), (.double (own_U uu))] 7)) t := fun t kt => by
        refine c51 _ ?_
        show Steps p.tables e below (s₁.setTop (mkF m 21 #[.val (.ref a1), .val (.double (own_U uu)), .second, .val (.int (-1 : Int32)), .val (.double (own_D 0)), .second, .val (.int (1 : Int32))] [(.int (cmpValue (FP.dcmp (own_D m1) (own_D 0)) .l))])) _
        refine XS.ifYes X0.here hx rfl (pc0 := 21) (pc' := 46) rfl (hb hby d1_21) rfl ((if0 _ _).trans (flt (fun q => hc21_2 ((own_gt m1 (by omega)).mp q))).2.2.2) (by decide) (by decide) ?_
        show Steps p.tables e below (s₁.setTop (mkF m 46 #[.val (.ref a1), .val (.double (own_U uu)), .second, .val (.int (-1 : Int32)), .val (.double (own_D 0)), .second, .val (.int (1 : Int32))] [])) _
        refine XS.iinc X0.here hx rfl (hb hby d1_46) rfl (l' := #[.val (.ref a1), .val (.double (own_U uu)), .second, .val (.int (-1 : Int32)), .val (.double (own_D 0)), .second, .val (.int (2 : Int32))]) rfl ?_
        show Steps p.tables e below (s₁.setTop (mkF m 49 #[.val (.ref a1), .val (.double (own_U uu)), .second, .val (.int (-1 : Int32)), .val (.double (own_D 0)), .second, .val (.int (2 : Int32))] [])) _
        refine XS.goto X0.here hx rfl (pc0 := 49) (pc' := 8) rfl (hb hby d1_49) (by decide) (by decide) ?_
        show Steps p.tables e below (s₁.setTop (mkF m 8 #[.val (.ref a1), .val (.double (own_U uu)), .second, .val (.int (-1 : Int32)), .val (.double (own_D 0)), .second, .val (.int (2 : Int32))] [])) _
        refine XS.iload X0.here hx rfl (hb hby d1_8) rfl ?_
        show Steps p.tables e below (s₁.setTop (mkF m 10 #[.val (.ref a1), .val (.double (own_U uu)), .second, .val (.int (-1 : Int32)), .val (.double (own_D 0)), .second, .val (.int (2 : Int32))] [(.int (2 : Int32))])) _
        refine XS.aloadN X0.here hx rfl (hb hby d1_10) rfl rfl ?_
        show Steps p.tables e below (s₁.setTop (mkF m 11 #[.val (.ref a1), .val (.double (own_U uu)), .second, .val (.int (-1 : Int32)), .val (.double (own_D 0)), .second, .val (.int (2 : Int32))] [(.ref a1), (.int (2 : Int32))])) _
        refine X0.arraylength hx (by first | exact Ar11_73.1 | (rw [e0]; exact Ar11_73.1)) (State.isArrayOf_alike hZ.alike Ar11_73.2.1) (g := (mkF m 11 #[.val (.ref a1), .val (.double (own_U uu)), .second, .val (.int (-1 : Int32)), .val (.double (own_D 0)), .second, .val (.int (2 : Int32))] [(.ref a1), (.int (2 : Int32))])) rfl rfl (hb hby d1_11) _ ?_
        rw [len_of Sa11_73 Na11_73]
        show Steps p.tables e below (s₁.setTop (mkF m 12 #[.val (.ref a1), .val (.double (own_U uu)), .second, .val (.int (-1 : Int32)), .val (.double (own_D 0)), .second, .val (.int (2 : Int32))] [(.int (4 : Int32)), (.int (2 : Int32))])) _
        refine XS.icmpNo X0.here hx rfl (hb hby d1_12) rfl (tlt (by decide)).2.1 ?_
        show Steps p.tables e below (s₁.setTop (mkF m 15 #[.val (.ref a1), .val (.double (own_U uu)), .second, .val (.int (-1 : Int32)), .val (.double (own_D 0)), .second, .val (.int (2 : Int32))] [])) _
        refine XS.aloadN X0.here hx rfl (hb hby d1_15) rfl rfl ?_
        show Steps p.tables e below (s₁.setTop (mkF m 16 #[.val (.ref a1), .val (.double (own_U uu)), .second, .val (.int (-1 : Int32)), .val (.double (own_D 0)), .second, .val (.int (2 : Int32))] [(.ref a1)])) _
        refine XS.iload X0.here hx rfl (hb hby d1_16) rfl ?_
        show Steps p.tables e below (s₁.setTop (mkF m 18 #[.val (.ref a1), .val (.double (own_U uu)), .second, .val (.int (-1 : Int32)), .val (.double (own_D 0)), .second, .val (.int (2 : Int32))] [(.int (2 : Int32)), (.ref a1)])) _
        refine X0.daload hx (j := (2 : Int32)) (v := (.double (own_D m2))) (by first | exact Ar18_74.1 | (rw [e0]; exact Ar18_74.1)) (State.isArrayOf_alike hZ.alike Ar18_74.2.1) Ar18_74.2.2 hin18_74 hat18_74 (g := (mkF m 18 #[.val (.ref a1), .val (.double (own_U uu)), .second, .val (.int (-1 : Int32)), .val (.double (own_D 0)), .second, .val (.int (2 : Int32))] [(.int (2 : Int32)), (.ref a1)])) rfl rfl (hb hby d1_18) _ ?_
        show Steps p.tables e below (s₁.setTop (mkF m 19 #[.val (.ref a1), .val (.double (own_U uu)), .second, .val (.int (-1 : Int32)), .val (.double (own_D 0)), .second, .val (.int (2 : Int32))] [(.double (own_D m2))])) _
        refine XS.dconst0 X0.here hx rfl (v := (own_D 0)) (hb hby d1_19) own_D0 ?_
        show Steps p.tables e below (s₁.setTop (mkF m 20 #[.val (.ref a1), .val (.double (own_U uu)), .second, .val (.int (-1 : Int32)), .val (.double (own_D 0)), .second, .val (.int (2 : Int32))] [(.double (own_D 0)), (.double (own_D m2))])) _
        refine XS.dcmpS X0.here hx rfl (hb hby d1_20) rfl rfl ?_
        exact kt
      by_cases hc21_3 : 0 < m2
      · have cp32_76 := V0
        obtain ⟨cl32_76, Ar32_76, -, Sa32_76, Na32_76, Ha32_76, -⟩ := cp32_76
        have hin32_76 : ¬ ((2 : Int32) < 0 ∨ cl32_76.slots.size ≤ ((2 : Int32)).toNatClampNeg) := inb_of Sa32_76 ⟨by decide, by decide⟩
        have hat32_76 : cl32_76.slots[((2 : Int32)).toNatClampNeg]? = some (.double (own_D m2)) := Ha32_76.at hin32_76 rfl
        have c77 : ∀ t, Steps p.tables e below (s₁.setTop (mkF m 40 #[.val (.ref a1), .val (.double (own_U uu)), .second, .val (.int (2 : Int32)), .val (.double (own_D (0 + m2))), .second, .val (.int (2 : Int32))] [(.int (cmpValue (FP.dcmp (own_U uu) (own_D (0 + m2))) .g))])) t → Steps p.tables e below (s₁.setTop (entryFrame m #[(.ref a1), (.double (own_U uu))] 7)) t := fun t kt => by
          refine c75 _ ?_
          show Steps p.tables e below (s₁.setTop (mkF m 21 #[.val (.ref a1), .val (.double (own_U uu)), .second, .val (.int (-1 : Int32)), .val (.double (own_D 0)), .second, .val (.int (2 : Int32))] [(.int (cmpValue (FP.dcmp (own_D m2) (own_D 0)) .l))])) _
          refine XS.ifNo X0.here hx rfl (hb hby d1_21) rfl ((if0 _ _).trans (tlt ((own_gt m2 (by omega)).mpr hc21_3)).2.2.2) ?_
          show Steps p.tables e below (s₁.setTop (mkF m 24 #[.val (.ref a1), .val (.double (own_U uu)), .second, .val (.int (-1 : Int32)), .val (.double (own_D 0)), .second, .val (.int (2 : Int32))] [])) _
          refine XS.iload X0.here hx rfl (hb hby d1_24) rfl ?_
          show Steps p.tables e below (s₁.setTop (mkF m 26 #[.val (.ref a1), .val (.double (own_U uu)), .second, .val (.int (-1 : Int32)), .val (.double (own_D 0)), .second, .val (.int (2 : Int32))] [(.int (2 : Int32))])) _
          refine XS.istoreN X0.here hx rfl (hb hby d1_26) rfl (l' := #[.val (.ref a1), .val (.double (own_U uu)), .second, .val (.int (2 : Int32)), .val (.double (own_D 0)), .second, .val (.int (2 : Int32))]) rfl ?_
          show Steps p.tables e below (s₁.setTop (mkF m 27 #[.val (.ref a1), .val (.double (own_U uu)), .second, .val (.int (2 : Int32)), .val (.double (own_D 0)), .second, .val (.int (2 : Int32))] [])) _
          refine XS.dload X0.here hx rfl (hb hby d1_27) rfl ?_
          show Steps p.tables e below (s₁.setTop (mkF m 29 #[.val (.ref a1), .val (.double (own_U uu)), .second, .val (.int (2 : Int32)), .val (.double (own_D 0)), .second, .val (.int (2 : Int32))] [(.double (own_D 0))])) _
          refine XS.aloadN X0.here hx rfl (hb hby d1_29) rfl rfl ?_
          show Steps p.tables e below (s₁.setTop (mkF m 30 #[.val (.ref a1), .val (.double (own_U uu)), .second, .val (.int (2 : Int32)), .val (.double (own_D 0)), .second, .val (.int (2 : Int32))] [(.ref a1), (.double (own_D 0))])) _
          refine XS.iload X0.here hx rfl (hb hby d1_30) rfl ?_
          show Steps p.tables e below (s₁.setTop (mkF m 32 #[.val (.ref a1), .val (.double (own_U uu)), .second, .val (.int (2 : Int32)), .val (.double (own_D 0)), .second, .val (.int (2 : Int32))] [(.int (2 : Int32)), (.ref a1), (.double (own_D 0))])) _
          refine X0.daload hx (j := (2 : Int32)) (v := (.double (own_D m2))) (by first | exact Ar32_76.1 | (rw [e0]; exact Ar32_76.1)) (State.isArrayOf_alike hZ.alike Ar32_76.2.1) Ar32_76.2.2 hin32_76 hat32_76 (g := (mkF m 32 #[.val (.ref a1), .val (.double (own_U uu)), .second, .val (.int (2 : Int32)), .val (.double (own_D 0)), .second, .val (.int (2 : Int32))] [(.int (2 : Int32)), (.ref a1), (.double (own_D 0))])) rfl rfl (hb hby d1_32) _ ?_
          show Steps p.tables e below (s₁.setTop (mkF m 33 #[.val (.ref a1), .val (.double (own_U uu)), .second, .val (.int (2 : Int32)), .val (.double (own_D 0)), .second, .val (.int (2 : Int32))] [(.double (own_D m2)), (.double (own_D 0))])) _
          refine XS.daddS X0.here hx rfl (hb hby d1_33) rfl (v := (own_D (0 + m2))) (own_nan2 _ _ (by omega)) (own_add _ _ (by omega)) ?_
          show Steps p.tables e below (s₁.setTop (mkF m 34 #[.val (.ref a1), .val (.double (own_U uu)), .second, .val (.int (2 : Int32)), .val (.double (own_D 0)), .second, .val (.int (2 : Int32))] [(.double (own_D (0 + m2)))])) _
          refine XS.dstore X0.here hx rfl (hb hby d1_34) rfl (l' := #[.val (.ref a1), .val (.double (own_U uu)), .second, .val (.int (2 : Int32)), .val (.double (own_D (0 + m2))), .second, .val (.int (2 : Int32))]) rfl ?_
          show Steps p.tables e below (s₁.setTop (mkF m 36 #[.val (.ref a1), .val (.double (own_U uu)), .second, .val (.int (2 : Int32)), .val (.double (own_D (0 + m2))), .second, .val (.int (2 : Int32))] [])) _
          refine XS.dloadN X0.here hx rfl (hb hby d1_36) rfl ?_
          show Steps p.tables e below (s₁.setTop (mkF m 37 #[.val (.ref a1), .val (.double (own_U uu)), .second, .val (.int (2 : Int32)), .val (.double (own_D (0 + m2))), .second, .val (.int (2 : Int32))] [(.double (own_U uu))])) _
          refine XS.dload X0.here hx rfl (hb hby d1_37) rfl ?_
          show Steps p.tables e below (s₁.setTop (mkF m 39 #[.val (.ref a1), .val (.double (own_U uu)), .second, .val (.int (2 : Int32)), .val (.double (own_D (0 + m2))), .second, .val (.int (2 : Int32))] [(.double (own_D (0 + m2))), (.double (own_U uu))])) _
          refine XS.dcmpS X0.here hx rfl (hb hby d1_39) rfl rfl ?_
          exact kt
        by_cases hc40 : uu < 16 * (0 + m2)
        · obtain ⟨fs, hr, hrun, hended, hW, hsame⟩ := X0.leave (v := some (.int (2 : Int32))) (fun h => by rw [Bd.returns] at h; cases h)
          refine ⟨_, _, c77 _ ?_, hrun, hended, _, _, rfl, ?_, ⟨_, rfl⟩, hW, hsame.mono (by decide) (by decide)⟩
          · show Steps p.tables e below (s₁.setTop (mkF m 40 #[.val (.ref a1), .val (.double (own_U uu)), .second, .val (.int (2 : Int32)), .val (.double (own_D (0 + m2))), .second, .val (.int (2 : Int32))] [(.int (cmpValue (FP.dcmp (own_U uu) (own_D (0 + m2))) .g))])) _
            refine XS.ifNo X0.here hx rfl (hb hby d1_40) rfl ((if0 _ _).trans (tlt ((own_lt uu (0 + m2) hu (by omega)).mpr hc40)).2.1) ?_
            show Steps p.tables e below (s₁.setTop (mkF m 43 #[.val (.ref a1), .val (.double (own_U uu)), .second, .val (.int (2 : Int32)), .val (.double (own_D (0 + m2))), .second, .val (.int (2 : Int32))] [])) _
            refine XS.goto X0.here hx rfl (pc0 := 43) (pc' := 52) rfl (hb hby d1_43) (by decide) (by decide) ?_
            show Steps p.tables e below (s₁.setTop (mkF m 52 #[.val (.ref a1), .val (.double (own_U uu)), .second, .val (.int (2 : Int32)), .val (.double (own_D (0 + m2))), .second, .val (.int (2 : Int32))] [])) _
            refine XS.iloadN X0.here hx rfl (hb hby d1_52) rfl ?_
            show Steps p.tables e below (s₁.setTop (mkF m 53 #[.val (.ref a1), .val (.double (own_U uu)), .second, .val (.int (2 : Int32)), .val (.double (own_D (0 + m2))), .second, .val (.int (2 : Int32))] [(.int (2 : Int32))])) _
            refine XS.ifYes X0.here hx rfl (pc0 := 53) (pc' := 66) rfl (hb hby d1_53) rfl ((if0 _ _).trans (flt (by decide)).2.1) (by decide) (by decide) ?_
            show Steps p.tables e below (s₁.setTop (mkF m 66 #[.val (.ref a1), .val (.double (own_U uu)), .second, .val (.int (2 : Int32)), .val (.double (own_D (0 + m2))), .second, .val (.int (2 : Int32))] [])) _
            refine XS.iloadN X0.here hx rfl (hb hby d1_66) rfl ?_
            show Steps p.tables e below (s₁.setTop (mkF m 67 #[.val (.ref a1), .val (.double (own_U uu)), .second, .val (.int (2 : Int32)), .val (.double (own_D (0 + m2))), .second, .val (.int (2 : Int32))] [(.int (2 : Int32))])) _
            exact retI X0 hx Bd.returns (hb hby d1_67) hr
          · show Q1 Z a1 kk m0 m1 m2 m3 uu h0 n0 _ s₁.heap _
            rw [e0]
            have hv : (own_draw m0 m1 m2 m3 uu) = (2 : Int32) := by unfold own_draw; rw [if_neg hc21, if_neg hc21_2, if_pos hc21_3, if_pos hc40]
            exact ⟨by rw [hv], N0, rfl⟩
        · have cp11_78 := V0
          obtain ⟨cl11_78, Ar11_78, -, Sa11_78, Na11_78, -, -⟩ := cp11_78
          have cp18_79 := V0
          obtain ⟨cl18_79, Ar18_79, -, Sa18_79, Na18_79, Ha18_79, -⟩ := cp18_79
          have hin18_79 : ¬ ((3 : Int32) < 0 ∨ cl18_79.slots.size ≤ ((3 : Int32)).toNatClampNeg) := inb_of Sa18_79 ⟨by decide, by decide⟩
          have hat18_79 : cl18_79.slots[((3 : Int32)).toNatClampNeg]? = some (.double (own_D m3)) := Ha18_79.at hin18_79 rfl
          have c80 : ∀ t, Steps p.tables e below (s₁.setTop (mkF m 21 #[.val (.ref a1), .val (.double (own_U uu)), .second, .val (.int (2 : Int32)), .val (.double (own_D (0 + m2))), .second, .val (.int (3 : Int32))] [(.int (cmpValue (FP.dcmp (own_D m3) (own_D 0)) .l))])) t → Steps p.tables e below (s₁.setTop (entryFrame m #[(.ref a1), (.double (own_U uu))] 7)) t := fun t kt => by
            refine c77 _ ?_
            show Steps p.tables e below (s₁.setTop (mkF m 40 #[.val (.ref a1), .val (.double (own_U uu)), .second, .val (.int (2 : Int32)), .val (.double (own_D (0 + m2))), .second, .val (.int (2 : Int32))] [(.int (cmpValue (FP.dcmp (own_U uu) (own_D (0 + m2))) .g))])) _
            refine XS.ifYes X0.here hx rfl (pc0 := 40) (pc' := 46) rfl (hb hby d1_40) rfl ((if0 _ _).trans (flt (fun q => hc40 ((own_lt uu (0 + m2) hu (by omega)).mp q))).2.1) (by decide) (by decide) ?_
            show Steps p.tables e below (s₁.setTop (mkF m 46 #[.val (.ref a1), .val (.double (own_U uu)), .second, .val (.int (2 : Int32)), .val (.double (own_D (0 + m2))), .second, .val (.int (2 : Int32))] [])) _
            refine XS.iinc X0.here hx rfl (hb hby d1_46) rfl (l' := #[.val (.ref a1), .val (.double (own_U uu)), .second, .val (.int (2 : Int32)), .val (.double (own_D (0 + m2))), .second, .val (.int (3 : Int32))]) rfl ?_
            show Steps p.tables e below (s₁.setTop (mkF m 49 #[.val (.ref a1), .val (.double (own_U uu)), .second, .val (.int (2 : Int32)), .val (.double (own_D (0 + m2))), .second, .val (.int (3 : Int32))] [])) _
            refine XS.goto X0.here hx rfl (pc0 := 49) (pc' := 8) rfl (hb hby d1_49) (by decide) (by decide) ?_
            show Steps p.tables e below (s₁.setTop (mkF m 8 #[.val (.ref a1), .val (.double (own_U uu)), .second, .val (.int (2 : Int32)), .val (.double (own_D (0 + m2))), .second, .val (.int (3 : Int32))] [])) _
            refine XS.iload X0.here hx rfl (hb hby d1_8) rfl ?_
            show Steps p.tables e below (s₁.setTop (mkF m 10 #[.val (.ref a1), .val (.double (own_U uu)), .second, .val (.int (2 : Int32)), .val (.double (own_D (0 + m2))), .second, .val (.int (3 : Int32))] [(.int (3 : Int32))])) _
            refine XS.aloadN X0.here hx rfl (hb hby d1_10) rfl rfl ?_
            show Steps p.tables e below (s₁.setTop (mkF m 11 #[.val (.ref a1), .val (.double (own_U uu)), .second, .val (.int (2 : Int32)), .val (.double (own_D (0 + m2))), .second, .val (.int (3 : Int32))] [(.ref a1), (.int (3 : Int32))])) _
            refine X0.arraylength hx (by first | exact Ar11_78.1 | (rw [e0]; exact Ar11_78.1)) (State.isArrayOf_alike hZ.alike Ar11_78.2.1) (g := (mkF m 11 #[.val (.ref a1), .val (.double (own_U uu)), .second, .val (.int (2 : Int32)), .val (.double (own_D (0 + m2))), .second, .val (.int (3 : Int32))] [(.ref a1), (.int (3 : Int32))])) rfl rfl (hb hby d1_11) _ ?_
            rw [len_of Sa11_78 Na11_78]
            show Steps p.tables e below (s₁.setTop (mkF m 12 #[.val (.ref a1), .val (.double (own_U uu)), .second, .val (.int (2 : Int32)), .val (.double (own_D (0 + m2))), .second, .val (.int (3 : Int32))] [(.int (4 : Int32)), (.int (3 : Int32))])) _
            refine XS.icmpNo X0.here hx rfl (hb hby d1_12) rfl (tlt (by decide)).2.1 ?_
            show Steps p.tables e below (s₁.setTop (mkF m 15 #[.val (.ref a1), .val (.double (own_U uu)), .second, .val (.int (2 : Int32)), .val (.double (own_D (0 + m2))), .second, .val (.int (3 : Int32))] [])) _
            refine XS.aloadN X0.here hx rfl (hb hby d1_15) rfl rfl ?_
            show Steps p.tables e below (s₁.setTop (mkF m 16 #[.val (.ref a1), .val (.double (own_U uu)), .second, .val (.int (2 : Int32)), .val (.double (own_D (0 + m2))), .second, .val (.int (3 : Int32))] [(.ref a1)])) _
            refine XS.iload X0.here hx rfl (hb hby d1_16) rfl ?_
            show Steps p.tables e below (s₁.setTop (mkF m 18 #[.val (.ref a1), .val (.double (own_U uu)), .second, .val (.int (2 : Int32)), .val (.double (own_D (0 + m2))), .second, .val (.int (3 : Int32))] [(.int (3 : Int32)), (.ref a1)])) _
            refine X0.daload hx (j := (3 : Int32)) (v := (.double (own_D m3))) (by first | exact Ar18_79.1 | (rw [e0]; exact Ar18_79.1)) (State.isArrayOf_alike hZ.alike Ar18_79.2.1) Ar18_79.2.2 hin18_79 hat18_79 (g := (mkF m 18 #[.val (.ref a1), .val (.double (own_U uu)), .second, .val (.int (2 : Int32)), .val (.double (own_D (0 + m2))), .second, .val (.int (3 : Int32))] [(.int (3 : Int32)), (.ref a1)])) rfl rfl (hb hby d1_18) _ ?_
            show Steps p.tables e below (s₁.setTop (mkF m 19 #[.val (.ref a1), .val (.double (own_U uu)), .second, .val (.int (2 : Int32)), .val (.double (own_D (0 + m2))), .second, .val (.int (3 : Int32))] [(.double (own_D m3))])) _
            refine XS.dconst0 X0.here hx rfl (v := (own_D 0)) (hb hby d1_19) own_D0 ?_
            show Steps p.tables e below (s₁.setTop (mkF m 20 #[.val (.ref a1), .val (.double (own_U uu)), .second, .val (.int (2 : Int32)), .val (.double (own_D (0 + m2))), .second, .val (.int (3 : Int32))] [(.double (own_D 0)), (.double (own_D m3))])) _
            refine XS.dcmpS X0.here hx rfl (hb hby d1_20) rfl rfl ?_
            exact kt
          by_cases hc21_4 : 0 < m3
          · have cp32_81 := V0
            obtain ⟨cl32_81, Ar32_81, -, Sa32_81, Na32_81, Ha32_81, -⟩ := cp32_81
            have hin32_81 : ¬ ((3 : Int32) < 0 ∨ cl32_81.slots.size ≤ ((3 : Int32)).toNatClampNeg) := inb_of Sa32_81 ⟨by decide, by decide⟩
            have hat32_81 : cl32_81.slots[((3 : Int32)).toNatClampNeg]? = some (.double (own_D m3)) := Ha32_81.at hin32_81 rfl
            have c82 : ∀ t, Steps p.tables e below (s₁.setTop (mkF m 40 #[.val (.ref a1), .val (.double (own_U uu)), .second, .val (.int (3 : Int32)), .val (.double (own_D ((0 + m2) + m3))), .second, .val (.int (3 : Int32))] [(.int (cmpValue (FP.dcmp (own_U uu) (own_D ((0 + m2) + m3))) .g))])) t → Steps p.tables e below (s₁.setTop (entryFrame m #[(.ref a1), (.double (own_U uu))] 7)) t := fun t kt => by
              refine c80 _ ?_
              show Steps p.tables e below (s₁.setTop (mkF m 21 #[.val (.ref a1), .val (.double (own_U uu)), .second, .val (.int (2 : Int32)), .val (.double (own_D (0 + m2))), .second, .val (.int (3 : Int32))] [(.int (cmpValue (FP.dcmp (own_D m3) (own_D 0)) .l))])) _
              refine XS.ifNo X0.here hx rfl (hb hby d1_21) rfl ((if0 _ _).trans (tlt ((own_gt m3 (by omega)).mpr hc21_4)).2.2.2) ?_
              show Steps p.tables e below (s₁.setTop (mkF m 24 #[.val (.ref a1), .val (.double (own_U uu)), .second, .val (.int (2 : Int32)), .val (.double (own_D (0 + m2))), .second, .val (.int (3 : Int32))] [])) _
              refine XS.iload X0.here hx rfl (hb hby d1_24) rfl ?_
              show Steps p.tables e below (s₁.setTop (mkF m 26 #[.val (.ref a1), .val (.double (own_U uu)), .second, .val (.int (2 : Int32)), .val (.double (own_D (0 + m2))), .second, .val (.int (3 : Int32))] [(.int (3 : Int32))])) _
              refine XS.istoreN X0.here hx rfl (hb hby d1_26) rfl (l' := #[.val (.ref a1), .val (.double (own_U uu)), .second, .val (.int (3 : Int32)), .val (.double (own_D (0 + m2))), .second, .val (.int (3 : Int32))]) rfl ?_
              show Steps p.tables e below (s₁.setTop (mkF m 27 #[.val (.ref a1), .val (.double (own_U uu)), .second, .val (.int (3 : Int32)), .val (.double (own_D (0 + m2))), .second, .val (.int (3 : Int32))] [])) _
              refine XS.dload X0.here hx rfl (hb hby d1_27) rfl ?_
              show Steps p.tables e below (s₁.setTop (mkF m 29 #[.val (.ref a1), .val (.double (own_U uu)), .second, .val (.int (3 : Int32)), .val (.double (own_D (0 + m2))), .second, .val (.int (3 : Int32))] [(.double (own_D (0 + m2)))])) _
              refine XS.aloadN X0.here hx rfl (hb hby d1_29) rfl rfl ?_
              show Steps p.tables e below (s₁.setTop (mkF m 30 #[.val (.ref a1), .val (.double (own_U uu)), .second, .val (.int (3 : Int32)), .val (.double (own_D (0 + m2))), .second, .val (.int (3 : Int32))] [(.ref a1), (.double (own_D (0 + m2)))])) _
              refine XS.iload X0.here hx rfl (hb hby d1_30) rfl ?_
              show Steps p.tables e below (s₁.setTop (mkF m 32 #[.val (.ref a1), .val (.double (own_U uu)), .second, .val (.int (3 : Int32)), .val (.double (own_D (0 + m2))), .second, .val (.int (3 : Int32))] [(.int (3 : Int32)), (.ref a1), (.double (own_D (0 + m2)))])) _
              refine X0.daload hx (j := (3 : Int32)) (v := (.double (own_D m3))) (by first | exact Ar32_81.1 | (rw [e0]; exact Ar32_81.1)) (State.isArrayOf_alike hZ.alike Ar32_81.2.1) Ar32_81.2.2 hin32_81 hat32_81 (g := (mkF m 32 #[.val (.ref a1), .val (.double (own_U uu)), .second, .val (.int (3 : Int32)), .val (.double (own_D (0 + m2))), .second, .val (.int (3 : Int32))] [(.int (3 : Int32)), (.ref a1), (.double (own_D (0 + m2)))])) rfl rfl (hb hby d1_32) _ ?_
              show Steps p.tables e below (s₁.setTop (mkF m 33 #[.val (.ref a1), .val (.double (own_U uu)), .second, .val (.int (3 : Int32)), .val (.double (own_D (0 + m2))), .second, .val (.int (3 : Int32))] [(.double (own_D m3)), (.double (own_D (0 + m2)))])) _
              refine XS.daddS X0.here hx rfl (hb hby d1_33) rfl (v := (own_D ((0 + m2) + m3))) (own_nan2 _ _ (by omega)) (own_add _ _ (by omega)) ?_
              show Steps p.tables e below (s₁.setTop (mkF m 34 #[.val (.ref a1), .val (.double (own_U uu)), .second, .val (.int (3 : Int32)), .val (.double (own_D (0 + m2))), .second, .val (.int (3 : Int32))] [(.double (own_D ((0 + m2) + m3)))])) _
              refine XS.dstore X0.here hx rfl (hb hby d1_34) rfl (l' := #[.val (.ref a1), .val (.double (own_U uu)), .second, .val (.int (3 : Int32)), .val (.double (own_D ((0 + m2) + m3))), .second, .val (.int (3 : Int32))]) rfl ?_
              show Steps p.tables e below (s₁.setTop (mkF m 36 #[.val (.ref a1), .val (.double (own_U uu)), .second, .val (.int (3 : Int32)), .val (.double (own_D ((0 + m2) + m3))), .second, .val (.int (3 : Int32))] [])) _
              refine XS.dloadN X0.here hx rfl (hb hby d1_36) rfl ?_
              show Steps p.tables e below (s₁.setTop (mkF m 37 #[.val (.ref a1), .val (.double (own_U uu)), .second, .val (.int (3 : Int32)), .val (.double (own_D ((0 + m2) + m3))), .second, .val (.int (3 : Int32))] [(.double (own_U uu))])) _
              refine XS.dload X0.here hx rfl (hb hby d1_37) rfl ?_
              show Steps p.tables e below (s₁.setTop (mkF m 39 #[.val (.ref a1), .val (.double (own_U uu)), .second, .val (.int (3 : Int32)), .val (.double (own_D ((0 + m2) + m3))), .second, .val (.int (3 : Int32))] [(.double (own_D ((0 + m2) + m3))), (.double (own_U uu))])) _
              refine XS.dcmpS X0.here hx rfl (hb hby d1_39) rfl rfl ?_
              exact kt
            by_cases hc40_2 : uu < 16 * ((0 + m2) + m3)
            · obtain ⟨fs, hr, hrun, hended, hW, hsame⟩ := X0.leave (v := some (.int (3 : Int32))) (fun h => by rw [Bd.returns] at h; cases h)
              refine ⟨_, _, c82 _ ?_, hrun, hended, _, _, rfl, ?_, ⟨_, rfl⟩, hW, hsame.mono (by decide) (by decide)⟩
              · show Steps p.tables e below (s₁.setTop (mkF m 40 #[.val (.ref a1), .val (.double (own_U uu)), .second, .val (.int (3 : Int32)), .val (.double (own_D ((0 + m2) + m3))), .second, .val (.int (3 : Int32))] [(.int (cmpValue (FP.dcmp (own_U uu) (own_D ((0 + m2) + m3))) .g))])) _
                refine XS.ifNo X0.here hx rfl (hb hby d1_40) rfl ((if0 _ _).trans (tlt ((own_lt uu ((0 + m2) + m3) hu (by omega)).mpr hc40_2)).2.1) ?_
                show Steps p.tables e below (s₁.setTop (mkF m 43 #[.val (.ref a1), .val (.double (own_U uu)), .second, .val (.int (3 : Int32)), .val (.double (own_D ((0 + m2) + m3))), .second, .val (.int (3 : Int32))] [])) _
                refine XS.goto X0.here hx rfl (pc0 := 43) (pc' := 52) rfl (hb hby d1_43) (by decide) (by decide) ?_
                show Steps p.tables e below (s₁.setTop (mkF m 52 #[.val (.ref a1), .val (.double (own_U uu)), .second, .val (.int (3 : Int32)), .val (.double (own_D ((0 + m2) + m3))), .second, .val (.int (3 : Int32))] [])) _
                refine XS.iloadN X0.here hx rfl (hb hby d1_52) rfl ?_
                show Steps p.tables e below (s₁.setTop (mkF m 53 #[.val (.ref a1), .val (.double (own_U uu)), .second, .val (.int (3 : Int32)), .val (.double (own_D ((0 + m2) + m3))), .second, .val (.int (3 : Int32))] [(.int (3 : Int32))])) _
                refine XS.ifYes X0.here hx rfl (pc0 := 53) (pc' := 66) rfl (hb hby d1_53) rfl ((if0 _ _).trans (flt (by decide)).2.1) (by decide) (by decide) ?_
                show Steps p.tables e below (s₁.setTop (mkF m 66 #[.val (.ref a1), .val (.double (own_U uu)), .second, .val (.int (3 : Int32)), .val (.double (own_D ((0 + m2) + m3))), .second, .val (.int (3 : Int32))] [])) _
                refine XS.iloadN X0.here hx rfl (hb hby d1_66) rfl ?_
                show Steps p.tables e below (s₁.setTop (mkF m 67 #[.val (.ref a1), .val (.double (own_U uu)), .second, .val (.int (3 : Int32)), .val (.double (own_D ((0 + m2) + m3))), .second, .val (.int (3 : Int32))] [(.int (3 : Int32))])) _
                exact retI X0 hx Bd.returns (hb hby d1_67) hr
              · show Q1 Z a1 kk m0 m1 m2 m3 uu h0 n0 _ s₁.heap _
                rw [e0]
                have hv : (own_draw m0 m1 m2 m3 uu) = (3 : Int32) := by unfold own_draw; rw [if_neg hc21, if_neg hc21_2, if_pos hc21_3, if_neg hc40, if_pos hc21_4]
                exact ⟨by rw [hv], N0, rfl⟩
            · have cp11_83 := V0
              obtain ⟨cl11_83, Ar11_83, -, Sa11_83, Na11_83, -, -⟩ := cp11_83
              obtain ⟨fs, hr, hrun, hended, hW, hsame⟩ := X0.leave (v := some (.int (3 : Int32))) (fun h => by rw [Bd.returns] at h; cases h)
              refine ⟨_, _, c82 _ ?_, hrun, hended, _, _, rfl, ?_, ⟨_, rfl⟩, hW, hsame.mono (by decide) (by decide)⟩
              · show Steps p.tables e below (s₁.setTop (mkF m 40 #[.val (.ref a1), .val (.double (own_U uu)), .second, .val (.int (3 : Int32)), .val (.double (own_D ((0 + m2) + m3))), .second, .val (.int (3 : Int32))] [(.int (cmpValue (FP.dcmp (own_U uu) (own_D ((0 + m2) + m3))) .g))])) _
                refine XS.ifYes X0.here hx rfl (pc0 := 40) (pc' := 46) rfl (hb hby d1_40) rfl ((if0 _ _).trans (flt (fun q => hc40_2 ((own_lt uu ((0 + m2) + m3) hu (by omega)).mp q))).2.1) (by decide) (by decide) ?_
                show Steps p.tables e below (s₁.setTop (mkF m 46 #[.val (.ref a1), .val (.double (own_U uu)), .second, .val (.int (3 : Int32)), .val (.double (own_D ((0 + m2) + m3))), .second, .val (.int (3 : Int32))] [])) _
                refine XS.iinc X0.here hx rfl (hb hby d1_46) rfl (l' := #[.val (.ref a1), .val (.double (own_U uu)), .second, .val (.int (3 : Int32)), .val (.double (own_D ((0 + m2) + m3))), .second, .val (.int (4 : Int32))]) rfl ?_
                show Steps p.tables e below (s₁.setTop (mkF m 49 #[.val (.ref a1), .val (.double (own_U uu)), .second, .val (.int (3 : Int32)), .val (.double (own_D ((0 + m2) + m3))), .second, .val (.int (4 : Int32))] [])) _
                refine XS.goto X0.here hx rfl (pc0 := 49) (pc' := 8) rfl (hb hby d1_49) (by decide) (by decide) ?_
                show Steps p.tables e below (s₁.setTop (mkF m 8 #[.val (.ref a1), .val (.double (own_U uu)), .second, .val (.int (3 : Int32)), .val (.double (own_D ((0 + m2) + m3))), .second, .val (.int (4 : Int32))] [])) _
                refine XS.iload X0.here hx rfl (hb hby d1_8) rfl ?_
                show Steps p.tables e below (s₁.setTop (mkF m 10 #[.val (.ref a1), .val (.double (own_U uu)), .second, .val (.int (3 : Int32)), .val (.double (own_D ((0 + m2) + m3))), .second, .val (.int (4 : Int32))] [(.int (4 : Int32))])) _
                refine XS.aloadN X0.here hx rfl (hb hby d1_10) rfl rfl ?_
                show Steps p.tables e below (s₁.setTop (mkF m 11 #[.val (.ref a1), .val (.double (own_U uu)), .second, .val (.int (3 : Int32)), .val (.double (own_D ((0 + m2) + m3))), .second, .val (.int (4 : Int32))] [(.ref a1), (.int (4 : Int32))])) _
                refine X0.arraylength hx (by first | exact Ar11_83.1 | (rw [e0]; exact Ar11_83.1)) (State.isArrayOf_alike hZ.alike Ar11_83.2.1) (g := (mkF m 11 #[.val (.ref a1), .val (.double (own_U uu)), .second, .val (.int (3 : Int32)), .val (.double (own_D ((0 + m2) + m3))), .second, .val (.int (4 : Int32))] [(.ref a1), (.int (4 : Int32))])) rfl rfl (hb hby d1_11) _ ?_
                rw [len_of Sa11_83 Na11_83]
                show Steps p.tables e below (s₁.setTop (mkF m 12 #[.val (.ref a1), .val (.double (own_U uu)), .second, .val (.int (3 : Int32)), .val (.double (own_D ((0 + m2) + m3))), .second, .val (.int (4 : Int32))] [(.int (4 : Int32)), (.int (4 : Int32))])) _
                refine XS.icmpYes X0.here hx rfl (pc0 := 12) (pc' := 52) rfl (hb hby d1_12) rfl (flt (by decide)).2.1 (by decide) (by decide) ?_
                show Steps p.tables e below (s₁.setTop (mkF m 52 #[.val (.ref a1), .val (.double (own_U uu)), .second, .val (.int (3 : Int32)), .val (.double (own_D ((0 + m2) + m3))), .second, .val (.int (4 : Int32))] [])) _
                refine XS.iloadN X0.here hx rfl (hb hby d1_52) rfl ?_
                show Steps p.tables e below (s₁.setTop (mkF m 53 #[.val (.ref a1), .val (.double (own_U uu)), .second, .val (.int (3 : Int32)), .val (.double (own_D ((0 + m2) + m3))), .second, .val (.int (4 : Int32))] [(.int (3 : Int32))])) _
                refine XS.ifYes X0.here hx rfl (pc0 := 53) (pc' := 66) rfl (hb hby d1_53) rfl ((if0 _ _).trans (flt (by decide)).2.1) (by decide) (by decide) ?_
                show Steps p.tables e below (s₁.setTop (mkF m 66 #[.val (.ref a1), .val (.double (own_U uu)), .second, .val (.int (3 : Int32)), .val (.double (own_D ((0 + m2) + m3))), .second, .val (.int (4 : Int32))] [])) _
                refine XS.iloadN X0.here hx rfl (hb hby d1_66) rfl ?_
                show Steps p.tables e below (s₁.setTop (mkF m 67 #[.val (.ref a1), .val (.double (own_U uu)), .second, .val (.int (3 : Int32)), .val (.double (own_D ((0 + m2) + m3))), .second, .val (.int (4 : Int32))] [(.int (3 : Int32))])) _
                exact retI X0 hx Bd.returns (hb hby d1_67) hr
              · show Q1 Z a1 kk m0 m1 m2 m3 uu h0 n0 _ s₁.heap _
                rw [e0]
                have hv : (own_draw m0 m1 m2 m3 uu) = (3 : Int32) := by unfold own_draw; rw [if_neg hc21, if_neg hc21_2, if_pos hc21_3, if_neg hc40, if_pos hc21_4]
                exact ⟨by rw [hv], N0, rfl⟩
          · have cp11_84 := V0
            obtain ⟨cl11_84, Ar11_84, -, Sa11_84, Na11_84, -, -⟩ := cp11_84
            obtain ⟨fs, hr, hrun, hended, hW, hsame⟩ := X0.leave (v := some (.int (2 : Int32))) (fun h => by rw [Bd.returns] at h; cases h)
            refine ⟨_, _, c80 _ ?_, hrun, hended, _, _, rfl, ?_, ⟨_, rfl⟩, hW, hsame.mono (by decide) (by decide)⟩
            · show Steps p.tables e below (s₁.setTop (mkF m 21 #[.val (.ref a1), .val (.double (own_U uu)), .second, .val (.int (2 : Int32)), .val (.double (own_D (0 + m2))), .second, .val (.int (3 : Int32))] [(.int (cmpValue (FP.dcmp (own_D m3) (own_D 0)) .l))])) _
              refine XS.ifYes X0.here hx rfl (pc0 := 21) (pc' := 46) rfl (hb hby d1_21) rfl ((if0 _ _).trans (flt (fun q => hc21_4 ((own_gt m3 (by omega)).mp q))).2.2.2) (by decide) (by decide) ?_
              show Steps p.tables e below (s₁.setTop (mkF m 46 #[.val (.ref a1), .val (.double (own_U uu)), .second, .val (.int (2 : Int32)), .val (.double (own_D (0 + m2))), .second, .val (.int (3 : Int32))] [])) _
              refine XS.iinc X0.here hx rfl (hb hby d1_46) rfl (l' := #[.val (.ref a1), .val (.double (own_U uu)), .second, .val (.int (2 : Int32)), .val (.double (own_D (0 + m2))), .second, .val (.int (4 : Int32))]) rfl ?_
              show Steps p.tables e below (s₁.setTop (mkF m 49 #[.val (.ref a1), .val (.double (own_U uu)), .second, .val (.int (2 : Int32)), .val (.double (own_D (0 + m2))), .second, .val (.int (4 : Int32))] [])) _
              refine XS.goto X0.here hx rfl (pc0 := 49) (pc' := 8) rfl (hb hby d1_49) (by decide) (by decide) ?_
              show Steps p.tables e below (s₁.setTop (mkF m 8 #[.val (.ref a1), .val (.double (own_U uu)), .second, .val (.int (2 : Int32)), .val (.double (own_D (0 + m2))), .second, .val (.int (4 : Int32))] [])) _
              refine XS.iload X0.here hx rfl (hb hby d1_8) rfl ?_
              show Steps p.tables e below (s₁.setTop (mkF m 10 #[.val (.ref a1), .val (.double (own_U uu)), .second, .val (.int (2 : Int32)), .val (.double (own_D (0 + m2))), .second, .val (.int (4 : Int32))] [(.int (4 : Int32))])) _
              refine XS.aloadN X0.here hx rfl (hb hby d1_10) rfl rfl ?_
              show Steps p.tables e below (s₁.setTop (mkF m 11 #[.val (.ref a1), .val (.double (own_U uu)), .second, .val (.int (2 : Int32)), .val (.double (own_D (0 + m2))), .second, .val (.int (4 : Int32))] [(.ref a1), (.int (4 : Int32))])) _
              refine X0.arraylength hx (by first | exact Ar11_84.1 | (rw [e0]; exact Ar11_84.1)) (State.isArrayOf_alike hZ.alike Ar11_84.2.1) (g := (mkF m 11 #[.val (.ref a1), .val (.double (own_U uu)), .second, .val (.int (2 : Int32)), .val (.double (own_D (0 + m2))), .second, .val (.int (4 : Int32))] [(.ref a1), (.int (4 : Int32))])) rfl rfl (hb hby d1_11) _ ?_
              rw [len_of Sa11_84 Na11_84]
              show Steps p.tables e below (s₁.setTop (mkF m 12 #[.val (.ref a1), .val (.double (own_U uu)), .second, .val (.int (2 : Int32)), .val (.double (own_D (0 + m2))), .second, .val (.int (4 : Int32))] [(.int (4 : Int32)), (.int (4 : Int32))])) _
              refine XS.icmpYes X0.here hx rfl (pc0 := 12) (pc' := 52) rfl (hb hby d1_12) rfl (flt (by decide)).2.1 (by decide) (by decide) ?_
              show Steps p.tables e below (s₁.setTop (mkF m 52 #[.val (.ref a1), .val (.double (own_U uu)), .second, .val (.int (2 : Int32)), .val (.double (own_D (0 + m2))), .second, .val (.int (4 : Int32))] [])) _
              refine XS.iloadN X0.here hx rfl (hb hby d1_52) rfl ?_
              show Steps p.tables e below (s₁.setTop (mkF m 53 #[.val (.ref a1), .val (.double (own_U uu)), .second, .val (.int (2 : Int32)), .val (.double (own_D (0 + m2))), .second, .val (.int (4 : Int32))] [(.int (2 : Int32))])) _
              refine XS.ifYes X0.here hx rfl (pc0 := 53) (pc' := 66) rfl (hb hby d1_53) rfl ((if0 _ _).trans (flt (by decide)).2.1) (by decide) (by decide) ?_
              show Steps p.tables e below (s₁.setTop (mkF m 66 #[.val (.ref a1), .val (.double (own_U uu)), .second, .val (.int (2 : Int32)), .val (.double (own_D (0 + m2))), .second, .val (.int (4 : Int32))] [])) _
              refine XS.iloadN X0.here hx rfl (hb hby d1_66) rfl ?_
              show Steps p.tables e below (s₁.setTop (mkF m 67 #[.val (.ref a1), .val (.double (own_U uu)), .second, .val (.int (2 : Int32)), .val (.double (own_D (0 + m2))), .second, .val (.int (4 : Int32))] [(.int (2 : Int32))])) _
              exact retI X0 hx Bd.returns (hb hby d1_67) hr
            · show Q1 Z a1 kk m0 m1 m2 m3 uu h0 n0 _ s₁.heap _
              rw [e0]
              have hv : (own_draw m0 m1 m2 m3 uu) = (2 : Int32) := by unfold own_draw; rw [if_neg hc21, if_neg hc21_2, if_pos hc21_3, if_neg hc40, if_neg hc21_4]
              exact ⟨by rw [hv], N0, rfl⟩
      · have cp11_85 := V0
        obtain ⟨cl11_85, Ar11_85, -, Sa11_85, Na11_85, -, -⟩ := cp11_85
        have cp18_86 := V0
        obtain ⟨cl18_86, Ar18_86, -, Sa18_86, Na18_86, Ha18_86, -⟩ := cp18_86
        have hin18_86 : ¬ ((3 : Int32) < 0 ∨ cl18_86.slots.size ≤ ((3 : Int32)).toNatClampNeg) := inb_of Sa18_86 ⟨by decide, by decide⟩
        have hat18_86 : cl18_86.slots[((3 : Int32)).toNatClampNeg]? = some (.double (own_D m3)) := Ha18_86.at hin18_86 rfl
        have c87 : ∀ t, Steps p.tables e below (s₁.setTop (mkF m 21 #[.val (.ref a1), .val (.double (own_U uu)), .second, .val (.int (-1 : Int32)), .val (.double (own_D 0)), .second, .val (.int (3 : Int32))] [(.int (cmpValue (FP.dcmp (own_D m3) (own_D 0)) .l))])) t → Steps p.tables e below (s₁.setTop (entryFrame m #[(.ref a1), (.double (own_U uu))] 7)) t := fun t kt => by
          refine c75 _ ?_
          show Steps p.tables e below (s₁.setTop (mkF m 21 #[.val (.ref a1), .val (.double (own_U uu)), .second, .val (.int (-1 : Int32)), .val (.double (own_D 0)), .second, .val (.int (2 : Int32))] [(.int (cmpValue (FP.dcmp (own_D m2) (own_D 0)) .l))])) _
          refine XS.ifYes X0.here hx rfl (pc0 := 21) (pc' := 46) rfl (hb hby d1_21) rfl ((if0 _ _).trans (flt (fun q => hc21_3 ((own_gt m2 (by omega)).mp q))).2.2.2) (by decide) (by decide) ?_
          show Steps p.tables e below (s₁.setTop (mkF m 46 #[.val (.ref a1), .val (.double (own_U uu)), .second, .val (.int (-1 : Int32)), .val (.double (own_D 0)), .second, .val (.int (2 : Int32))] [])) _
          refine XS.iinc X0.here hx rfl (hb hby d1_46) rfl (l' := #[.val (.ref a1), .val (.double (own_U uu)), .second, .val (.int (-1 : Int32)), .val (.double (own_D 0)), .second, .val (.int (3 : Int32))]) rfl ?_
          show Steps p.tables e below (s₁.setTop (mkF m 49 #[.val (.ref a1), .val (.double (own_U uu)), .second, .val (.int (-1 : Int32)), .val (.double (own_D 0)), .second, .val (.int (3 : Int32))] [])) _
          refine XS.goto X0.here hx rfl (pc0 := 49) (pc' := 8) rfl (hb hby d1_49) (by decide) (by decide) ?_
          show Steps p.tables e below (s₁.setTop (mkF m 8 #[.val (.ref a1), .val (.double (own_U uu)), .second, .val (.int (-1 : Int32)), .val (.double (own_D 0)), .second, .val (.int (3 : Int32))] [])) _
          refine XS.iload X0.here hx rfl (hb hby d1_8) rfl ?_
          show Steps p.tables e below (s₁.setTop (mkF m 10 #[.val (.ref a1), .val (.double (own_U uu)), .second, .val (.int (-1 : Int32)), .val (.double (own_D 0)), .second, .val (.int (3 : Int32))] [(.int (3 : Int32))])) _
          refine XS.aloadN X0.here hx rfl (hb hby d1_10) rfl rfl ?_
          show Steps p.tables e below (s₁.setTop (mkF m 11 #[.val (.ref a1), .val (.double (own_U uu)), .second, .val (.int (-1 : Int32)), .val (.double (own_D 0)), .second, .val (.int (3 : Int32))] [(.ref a1), (.int (3 : Int32))])) _
          refine X0.arraylength hx (by first | exact Ar11_85.1 | (rw [e0]; exact Ar11_85.1)) (State.isArrayOf_alike hZ.alike Ar11_85.2.1) (g := (mkF m 11 #[.val (.ref a1), .val (.double (own_U uu)), .second, .val (.int (-1 : Int32)), .val (.double (own_D 0)), .second, .val (.int (3 : Int32))] [(.ref a1), (.int (3 : Int32))])) rfl rfl (hb hby d1_11) _ ?_
          rw [len_of Sa11_85 Na11_85]
          show Steps p.tables e below (s₁.setTop (mkF m 12 #[.val (.ref a1), .val (.double (own_U uu)), .second, .val (.int (-1 : Int32)), .val (.double (own_D 0)), .second, .val (.int (3 : Int32))] [(.int (4 : Int32)), (.int (3 : Int32))])) _
          refine XS.icmpNo X0.here hx rfl (hb hby d1_12) rfl (tlt (by decide)).2.1 ?_
          show Steps p.tables e below (s₁.setTop (mkF m 15 #[.val (.ref a1), .val (.double (own_U uu)), .second, .val (.int (-1 : Int32)), .val (.double (own_D 0)), .second, .val (.int (3 : Int32))] [])) _
          refine XS.aloadN X0.here hx rfl (hb hby d1_15) rfl rfl ?_
          show Steps p.tables e below (s₁.setTop (mkF m 16 #[.val (.ref a1), .val (.double (own_U uu)), .second, .val (.int (-1 : Int32)), .val (.double (own_D 0)), .second, .val (.int (3 : Int32))] [(.ref a1)])) _
          refine XS.iload X0.here hx rfl (hb hby d1_16) rfl ?_
          show Steps p.tables e below (s₁.setTop (mkF m 18 #[.val (.ref a1), .val (.double (own_U uu)), .second, .val (.int (-1 : Int32)), .val (.double (own_D 0)), .second, .val (.int (3 : Int32))] [(.int (3 : Int32)), (.ref a1)])) _
          refine X0.daload hx (j := (3 : Int32)) (v := (.double (own_D m3))) (by first | exact Ar18_86.1 | (rw [e0]; exact Ar18_86.1)) (State.isArrayOf_alike hZ.alike Ar18_86.2.1) Ar18_86.2.2 hin18_86 hat18_86 (g := (mkF m 18 #[.val (.ref a1), .val (.double (own_U uu)), .second, .val (.int (-1 : Int32)), .val (.double (own_D 0)), .second, .val (.int (3 : Int32))] [(.int (3 : Int32)), (.ref a1)])) rfl rfl (hb hby d1_18) _ ?_
          show Steps p.tables e below (s₁.setTop (mkF m 19 #[.val (.ref a1), .val (.double (own_U uu)), .second, .val (.int (-1 : Int32)), .val (.double (own_D 0)), .second, .val (.int (3 : Int32))] [(.double (own_D m3))])) _
          refine XS.dconst0 X0.here hx rfl (v := (own_D 0)) (hb hby d1_19) own_D0 ?_
          show Steps p.tables e below (s₁.setTop (mkF m 20 #[.val (.ref a1), .val (.double (own_U uu)), .second, .val (.int (-1 : Int32)), .val (.double (own_D 0)), .second, .val (.int (3 : Int32))] [(.double (own_D 0)), (.double (own_D m3))])) _
          refine XS.dcmpS X0.here hx rfl (hb hby d1_20) rfl rfl ?_
          exact kt
        by_cases hc21_4 : 0 < m3
        · have cp32_88 := V0
          obtain ⟨cl32_88, Ar32_88, -, Sa32_88, Na32_88, Ha32_88, -⟩ := cp32_88
          have hin32_88 : ¬ ((3 : Int32) < 0 ∨ cl32_88.slots.size ≤ ((3 : Int32)).toNatClampNeg) := inb_of Sa32_88 ⟨by decide, by decide⟩
          have hat32_88 : cl32_88.slots[((3 : Int32)).toNatClampNeg]? = some (.double (own_D m3)) := Ha32_88.at hin32_88 rfl
          have c89 : ∀ t, Steps p.tables e below (s₁.setTop (mkF m 40 #[.val (.ref a1), .val (.double (own_U uu)), .second, .val (.int (3 : Int32)), .val (.double (own_D (0 + m3))), .second, .val (.int (3 : Int32))] [(.int (cmpValue (FP.dcmp (own_U uu) (own_D (0 + m3))) .g))])) t → Steps p.tables e below (s₁.setTop (entryFrame m #[(.ref a1), (.double (own_U uu))] 7)) t := fun t kt => by
            refine c87 _ ?_
            show Steps p.tables e below (s₁.setTop (mkF m 21 #[.val (.ref a1), .val (.double (own_U uu)), .second, .val (.int (-1 : Int32)), .val (.double (own_D 0)), .second, .val (.int (3 : Int32))] [(.int (cmpValue (FP.dcmp (own_D m3) (own_D 0)) .l))])) _
            refine XS.ifNo X0.here hx rfl (hb hby d1_21) rfl ((if0 _ _).trans (tlt ((own_gt m3 (by omega)).mpr hc21_4)).2.2.2) ?_
            show Steps p.tables e below (s₁.setTop (mkF m 24 #[.val (.ref a1), .val (.double (own_U uu)), .second, .val (.int (-1 : Int32)), .val (.double (own_D 0)), .second, .val (.int (3 : Int32))] [])) _
            refine XS.iload X0.here hx rfl (hb hby d1_24) rfl ?_
            show Steps p.tables e below (s₁.setTop (mkF m 26 #[.val (.ref a1), .val (.double (own_U uu)), .second, .val (.int (-1 : Int32)), .val (.double (own_D 0)), .second, .val (.int (3 : Int32))] [(.int (3 : Int32))])) _
            refine XS.istoreN X0.here hx rfl (hb hby d1_26) rfl (l' := #[.val (.ref a1), .val (.double (own_U uu)), .second, .val (.int (3 : Int32)), .val (.double (own_D 0)), .second, .val (.int (3 : Int32))]) rfl ?_
            show Steps p.tables e below (s₁.setTop (mkF m 27 #[.val (.ref a1), .val (.double (own_U uu)), .second, .val (.int (3 : Int32)), .val (.double (own_D 0)), .second, .val (.int (3 : Int32))] [])) _
            refine XS.dload X0.here hx rfl (hb hby d1_27) rfl ?_
            show Steps p.tables e below (s₁.setTop (mkF m 29 #[.val (.ref a1), .val (.double (own_U uu)), .second, .val (.int (3 : Int32)), .val (.double (own_D 0)), .second, .val (.int (3 : Int32))] [(.double (own_D 0))])) _
            refine XS.aloadN X0.here hx rfl (hb hby d1_29) rfl rfl ?_
            show Steps p.tables e below (s₁.setTop (mkF m 30 #[.val (.ref a1), .val (.double (own_U uu)), .second, .val (.int (3 : Int32)), .val (.double (own_D 0)), .second, .val (.int (3 : Int32))] [(.ref a1), (.double (own_D 0))])) _
            refine XS.iload X0.here hx rfl (hb hby d1_30) rfl ?_
            show Steps p.tables e below (s₁.setTop (mkF m 32 #[.val (.ref a1), .val (.double (own_U uu)), .second, .val (.int (3 : Int32)), .val (.double (own_D 0)), .second, .val (.int (3 : Int32))] [(.int (3 : Int32)), (.ref a1), (.double (own_D 0))])) _
            refine X0.daload hx (j := (3 : Int32)) (v := (.double (own_D m3))) (by first | exact Ar32_88.1 | (rw [e0]; exact Ar32_88.1)) (State.isArrayOf_alike hZ.alike Ar32_88.2.1) Ar32_88.2.2 hin32_88 hat32_88 (g := (mkF m 32 #[.val (.ref a1), .val (.double (own_U uu)), .second, .val (.int (3 : Int32)), .val (.double (own_D 0)), .second, .val (.int (3 : Int32))] [(.int (3 : Int32)), (.ref a1), (.double (own_D 0))])) rfl rfl (hb hby d1_32) _ ?_
            show Steps p.tables e below (s₁.setTop (mkF m 33 #[.val (.ref a1), .val (.double (own_U uu)), .second, .val (.int (3 : Int32)), .val (.double (own_D 0)), .second, .val (.int (3 : Int32))] [(.double (own_D m3)), (.double (own_D 0))])) _
            refine XS.daddS X0.here hx rfl (hb hby d1_33) rfl (v := (own_D (0 + m3))) (own_nan2 _ _ (by omega)) (own_add _ _ (by omega)) ?_
            show Steps p.tables e below (s₁.setTop (mkF m 34 #[.val (.ref a1), .val (.double (own_U uu)), .second, .val (.int (3 : Int32)), .val (.double (own_D 0)), .second, .val (.int (3 : Int32))] [(.double (own_D (0 + m3)))])) _
            refine XS.dstore X0.here hx rfl (hb hby d1_34) rfl (l' := #[.val (.ref a1), .val (.double (own_U uu)), .second, .val (.int (3 : Int32)), .val (.double (own_D (0 + m3))), .second, .val (.int (3 : Int32))]) rfl ?_
            show Steps p.tables e below (s₁.setTop (mkF m 36 #[.val (.ref a1), .val (.double (own_U uu)), .second, .val (.int (3 : Int32)), .val (.double (own_D (0 + m3))), .second, .val (.int (3 : Int32))] [])) _
            refine XS.dloadN X0.here hx rfl (hb hby d1_36) rfl ?_
            show Steps p.tables e below (s₁.setTop (mkF m 37 #[.val (.ref a1), .val (.double (own_U uu)), .second, .val (.int (3 : Int32)), .val (.double (own_D (0 + m3))), .second, .val (.int (3 : Int32))] [(.double (own_U uu))])) _
            refine XS.dload X0.here hx rfl (hb hby d1_37) rfl ?_
            show Steps p.tables e below (s₁.setTop (mkF m 39 #[.val (.ref a1), .val (.double (own_U uu)), .second, .val (.int (3 : Int32)), .val (.double (own_D (0 + m3))), .second, .val (.int (3 : Int32))] [(.double (own_D (0 + m3))), (.double (own_U uu))])) _
            refine XS.dcmpS X0.here hx rfl (hb hby d1_39) rfl rfl ?_
            exact kt
          by_cases hc40 : uu < 16 * (0 + m3)
          · obtain ⟨fs, hr, hrun, hended, hW, hsame⟩ := X0.leave (v := some (.int (3 : Int32))) (fun h => by rw [Bd.returns] at h; cases h)
            refine ⟨_, _, c89 _ ?_, hrun, hended, _, _, rfl, ?_, ⟨_, rfl⟩, hW, hsame.mono (by decide) (by decide)⟩
            · show Steps p.tables e below (s₁.setTop (mkF m 40 #[.val (.ref a1), .val (.double (own_U uu)), .second, .val (.int (3 : Int32)), .val (.double (own_D (0 + m3))), .second, .val (.int (3 : Int32))] [(.int (cmpValue (FP.dcmp (own_U uu) (own_D (0 + m3))) .g))])) _
              refine XS.ifNo X0.here hx rfl (hb hby d1_40) rfl ((if0 _ _).trans (tlt ((own_lt uu (0 + m3) hu (by omega)).mpr hc40)).2.1) ?_
              show Steps p.tables e below (s₁.setTop (mkF m 43 #[.val (.ref a1), .val (.double (own_U uu)), .second, .val (.int (3 : Int32)), .val (.double (own_D (0 + m3))), .second, .val (.int (3 : Int32))] [])) _
              refine XS.goto X0.here hx rfl (pc0 := 43) (pc' := 52) rfl (hb hby d1_43) (by decide) (by decide) ?_
              show Steps p.tables e below (s₁.setTop (mkF m 52 #[.val (.ref a1), .val (.double (own_U uu)), .second, .val (.int (3 : Int32)), .val (.double (own_D (0 + m3))), .second, .val (.int (3 : Int32))] [])) _
              refine XS.iloadN X0.here hx rfl (hb hby d1_52) rfl ?_
              show Steps p.tables e below (s₁.setTop (mkF m 53 #[.val (.ref a1), .val (.double (own_U uu)), .second, .val (.int (3 : Int32)), .val (.double (own_D (0 + m3))), .second, .val (.int (3 : Int32))] [(.int (3 : Int32))])) _
              refine XS.ifYes X0.here hx rfl (pc0 := 53) (pc' := 66) rfl (hb hby d1_53) rfl ((if0 _ _).trans (flt (by decide)).2.1) (by decide) (by decide) ?_
              show Steps p.tables e below (s₁.setTop (mkF m 66 #[.val (.ref a1), .val (.double (own_U uu)), .second, .val (.int (3 : Int32)), .val (.double (own_D (0 + m3))), .second, .val (.int (3 : Int32))] [])) _
              refine XS.iloadN X0.here hx rfl (hb hby d1_66) rfl ?_
              show Steps p.tables e below (s₁.setTop (mkF m 67 #[.val (.ref a1), .val (.double (own_U uu)), .second, .val (.int (3 : Int32)), .val (.double (own_D (0 + m3))), .second, .val (.int (3 : Int32))] [(.int (3 : Int32))])) _
              exact retI X0 hx Bd.returns (hb hby d1_67) hr
            · show Q1 Z a1 kk m0 m1 m2 m3 uu h0 n0 _ s₁.heap _
              rw [e0]
              have hv : (own_draw m0 m1 m2 m3 uu) = (3 : Int32) := by unfold own_draw; rw [if_neg hc21, if_neg hc21_2, if_neg hc21_3]
              exact ⟨by rw [hv], N0, rfl⟩
          · have cp11_90 := V0
            obtain ⟨cl11_90, Ar11_90, -, Sa11_90, Na11_90, -, -⟩ := cp11_90
            obtain ⟨fs, hr, hrun, hended, hW, hsame⟩ := X0.leave (v := some (.int (3 : Int32))) (fun h => by rw [Bd.returns] at h; cases h)
            refine ⟨_, _, c89 _ ?_, hrun, hended, _, _, rfl, ?_, ⟨_, rfl⟩, hW, hsame.mono (by decide) (by decide)⟩
            · show Steps p.tables e below (s₁.setTop (mkF m 40 #[.val (.ref a1), .val (.double (own_U uu)), .second, .val (.int (3 : Int32)), .val (.double (own_D (0 + m3))), .second, .val (.int (3 : Int32))] [(.int (cmpValue (FP.dcmp (own_U uu) (own_D (0 + m3))) .g))])) _
              refine XS.ifYes X0.here hx rfl (pc0 := 40) (pc' := 46) rfl (hb hby d1_40) rfl ((if0 _ _).trans (flt (fun q => hc40 ((own_lt uu (0 + m3) hu (by omega)).mp q))).2.1) (by decide) (by decide) ?_
              show Steps p.tables e below (s₁.setTop (mkF m 46 #[.val (.ref a1), .val (.double (own_U uu)), .second, .val (.int (3 : Int32)), .val (.double (own_D (0 + m3))), .second, .val (.int (3 : Int32))] [])) _
              refine XS.iinc X0.here hx rfl (hb hby d1_46) rfl (l' := #[.val (.ref a1), .val (.double (own_U uu)), .second, .val (.int (3 : Int32)), .val (.double (own_D (0 + m3))), .second, .val (.int (4 : Int32))]) rfl ?_
              show Steps p.tables e below (s₁.setTop (mkF m 49 #[.val (.ref a1), .val (.double (own_U uu)), .second, .val (.int (3 : Int32)), .val (.double (own_D (0 + m3))), .second, .val (.int (4 : Int32))] [])) _
              refine XS.goto X0.here hx rfl (pc0 := 49) (pc' := 8) rfl (hb hby d1_49) (by decide) (by decide) ?_
              show Steps p.tables e below (s₁.setTop (mkF m 8 #[.val (.ref a1), .val (.double (own_U uu)), .second, .val (.int (3 : Int32)), .val (.double (own_D (0 + m3))), .second, .val (.int (4 : Int32))] [])) _
              refine XS.iload X0.here hx rfl (hb hby d1_8) rfl ?_
              show Steps p.tables e below (s₁.setTop (mkF m 10 #[.val (.ref a1), .val (.double (own_U uu)), .second, .val (.int (3 : Int32)), .val (.double (own_D (0 + m3))), .second, .val (.int (4 : Int32))] [(.int (4 : Int32))])) _
              refine XS.aloadN X0.here hx rfl (hb hby d1_10) rfl rfl ?_
              show Steps p.tables e below (s₁.setTop (mkF m 11 #[.val (.ref a1), .val (.double (own_U uu)), .second, .val (.int (3 : Int32)), .val (.double (own_D (0 + m3))), .second, .val (.int (4 : Int32))] [(.ref a1), (.int (4 : Int32))])) _
              refine X0.arraylength hx (by first | exact Ar11_90.1 | (rw [e0]; exact Ar11_90.1)) (State.isArrayOf_alike hZ.alike Ar11_90.2.1) (g := (mkF m 11 #[.val (.ref a1), .val (.double (own_U uu)), .second, .val (.int (3 : Int32)), .val (.double (own_D (0 + m3))), .second, .val (.int (4 : Int32))] [(.ref a1), (.int (4 : Int32))])) rfl rfl (hb hby d1_11) _ ?_
              rw [len_of Sa11_90 Na11_90]
              show Steps p.tables e below (s₁.setTop (mkF m 12 #[.val (.ref a1), .val (.double (own_U uu)), .second, .val (.int (3 : Int32)), .val (.double (own_D (0 + m3))), .second, .val (.int (4 : Int32))] [(.int (4 : Int32)), (.int (4 : Int32))])) _
              refine XS.icmpYes X0.here hx rfl (pc0 := 12) (pc' := 52) rfl (hb hby d1_12) rfl (flt (by decide)).2.1 (by decide) (by decide) ?_
              show Steps p.tables e below (s₁.setTop (mkF m 52 #[.val (.ref a1), .val (.double (own_U uu)), .second, .val (.int (3 : Int32)), .val (.double (own_D (0 + m3))), .second, .val (.int (4 : Int32))] [])) _
              refine XS.iloadN X0.here hx rfl (hb hby d1_52) rfl ?_
              show Steps p.tables e below (s₁.setTop (mkF m 53 #[.val (.ref a1), .val (.double (own_U uu)), .second, .val (.int (3 : Int32)), .val (.double (own_D (0 + m3))), .second, .val (.int (4 : Int32))] [(.int (3 : Int32))])) _
              refine XS.ifYes X0.here hx rfl (pc0 := 53) (pc' := 66) rfl (hb hby d1_53) rfl ((if0 _ _).trans (flt (by decide)).2.1) (by decide) (by decide) ?_
              show Steps p.tables e below (s₁.setTop (mkF m 66 #[.val (.ref a1), .val (.double (own_U uu)), .second, .val (.int (3 : Int32)), .val (.double (own_D (0 + m3))), .second, .val (.int (4 : Int32))] [])) _
              refine XS.iloadN X0.here hx rfl (hb hby d1_66) rfl ?_
              show Steps p.tables e below (s₁.setTop (mkF m 67 #[.val (.ref a1), .val (.double (own_U uu)), .second, .val (.int (3 : Int32)), .val (.double (own_D (0 + m3))), .second, .val (.int (4 : Int32))] [(.int (3 : Int32))])) _
              exact retI X0 hx Bd.returns (hb hby d1_67) hr
            · show Q1 Z a1 kk m0 m1 m2 m3 uu h0 n0 _ s₁.heap _
              rw [e0]
              have hv : (own_draw m0 m1 m2 m3 uu) = (3 : Int32) := by unfold own_draw; rw [if_neg hc21, if_neg hc21_2, if_neg hc21_3]
              exact ⟨by rw [hv], N0, rfl⟩
        · have cp11_91 := V0
          obtain ⟨cl11_91, Ar11_91, -, Sa11_91, Na11_91, -, -⟩ := cp11_91
          exfalso; omega
theorem d2_0 : decode method_3_code 0 = .ok (.iload_n 0, 1) := by decide +kernel
theorem d2_1 : decode method_3_code 1 = .ok (.istore 5, 2) := by decide +kernel
theorem d2_3 : decode method_3_code 3 = .ok (.iload 5, 2) := by decide +kernel
theorem d2_5 : decode method_3_code 5 = .ok (.iload_n 1, 1) := by decide +kernel
theorem d2_6 : decode method_3_code 6 = .ok (.iadd, 1) := by decide +kernel
theorem d2_7 : decode method_3_code 7 = .ok (.istore 6, 2) := by decide +kernel
theorem d2_9 : decode method_3_code 9 = .ok (.iload 6, 2) := by decide +kernel
theorem d2_11 : decode method_3_code 11 = .ok (.iload_n 2, 1) := by decide +kernel
theorem d2_12 : decode method_3_code 12 = .ok (.iadd, 1) := by decide +kernel
theorem d2_13 : decode method_3_code 13 = .ok (.istore 7, 2) := by decide +kernel
theorem d2_15 : decode method_3_code 15 = .ok (.iload 7, 2) := by decide +kernel
theorem d2_17 : decode method_3_code 17 = .ok (.iload_n 3, 1) := by decide +kernel
theorem d2_18 : decode method_3_code 18 = .ok (.iadd, 1) := by decide +kernel
theorem d2_19 : decode method_3_code 19 = .ok (.istore 8, 2) := by decide +kernel
theorem d2_21 : decode method_3_code 21 = .ok (.iload_n 0, 1) := by decide +kernel
theorem d2_22 : decode method_3_code 22 = .ok (.ifCond .le 15, 3) := by decide +kernel
theorem d2_25 : decode method_3_code 25 = .ok (.iload 4, 2) := by decide +kernel
theorem d2_27 : decode method_3_code 27 = .ok (.bipush 16, 2) := by decide +kernel
theorem d2_29 : decode method_3_code 29 = .ok (.iload 5, 2) := by decide +kernel
theorem d2_31 : decode method_3_code 31 = .ok (.imul, 1) := by decide +kernel
theorem d2_32 : decode method_3_code 32 = .ok (.if_icmp .ge 5, 3) := by decide +kernel
theorem d2_35 : decode method_3_code 35 = .ok (.iconst 0, 1) := by decide +kernel
theorem d2_36 : decode method_3_code 36 = .ok (.ireturn, 1) := by decide +kernel
theorem d2_37 : decode method_3_code 37 = .ok (.iload_n 1, 1) := by decide +kernel
theorem d2_38 : decode method_3_code 38 = .ok (.ifCond .le 15, 3) := by decide +kernel
theorem d2_41 : decode method_3_code 41 = .ok (.iload 4, 2) := by decide +kernel
theorem d2_43 : decode method_3_code 43 = .ok (.bipush 16, 2) := by decide +kernel
theorem d2_45 : decode method_3_code 45 = .ok (.iload 6, 2) := by decide +kernel
theorem d2_47 : decode method_3_code 47 = .ok (.imul, 1) := by decide +kernel
theorem d2_48 : decode method_3_code 48 = .ok (.if_icmp .ge 5, 3) := by decide +kernel
theorem d2_51 : decode method_3_code 51 = .ok (.iconst 1, 1) := by decide +kernel
theorem d2_52 : decode method_3_code 52 = .ok (.ireturn, 1) := by decide +kernel
theorem d2_53 : decode method_3_code 53 = .ok (.iload_n 2, 1) := by decide +kernel
theorem d2_54 : decode method_3_code 54 = .ok (.ifCond .le 15, 3) := by decide +kernel
theorem d2_57 : decode method_3_code 57 = .ok (.iload 4, 2) := by decide +kernel
theorem d2_59 : decode method_3_code 59 = .ok (.bipush 16, 2) := by decide +kernel
theorem d2_61 : decode method_3_code 61 = .ok (.iload 7, 2) := by decide +kernel
theorem d2_63 : decode method_3_code 63 = .ok (.imul, 1) := by decide +kernel
theorem d2_64 : decode method_3_code 64 = .ok (.if_icmp .ge 5, 3) := by decide +kernel
theorem d2_67 : decode method_3_code 67 = .ok (.iconst 2, 1) := by decide +kernel
theorem d2_68 : decode method_3_code 68 = .ok (.ireturn, 1) := by decide +kernel
theorem d2_69 : decode method_3_code 69 = .ok (.iload_n 3, 1) := by decide +kernel
theorem d2_70 : decode method_3_code 70 = .ok (.ifCond .le 15, 3) := by decide +kernel
theorem d2_73 : decode method_3_code 73 = .ok (.iload 4, 2) := by decide +kernel
theorem d2_75 : decode method_3_code 75 = .ok (.bipush 16, 2) := by decide +kernel
theorem d2_77 : decode method_3_code 77 = .ok (.iload 8, 2) := by decide +kernel
theorem d2_79 : decode method_3_code 79 = .ok (.imul, 1) := by decide +kernel
theorem d2_80 : decode method_3_code 80 = .ok (.if_icmp .ge 5, 3) := by decide +kernel
theorem d2_83 : decode method_3_code 83 = .ok (.iconst 3, 1) := by decide +kernel
theorem d2_84 : decode method_3_code 84 = .ok (.ireturn, 1) := by decide +kernel
theorem d2_85 : decode method_3_code 85 = .ok (.iload_n 3, 1) := by decide +kernel
theorem d2_86 : decode method_3_code 86 = .ok (.ifCond .le 5, 3) := by decide +kernel
theorem d2_89 : decode method_3_code 89 = .ok (.iconst 3, 1) := by decide +kernel
theorem d2_90 : decode method_3_code 90 = .ok (.ireturn, 1) := by decide +kernel
theorem d2_91 : decode method_3_code 91 = .ok (.iload_n 2, 1) := by decide +kernel
theorem d2_92 : decode method_3_code 92 = .ok (.ifCond .le 5, 3) := by decide +kernel
theorem d2_95 : decode method_3_code 95 = .ok (.iconst 2, 1) := by decide +kernel
theorem d2_96 : decode method_3_code 96 = .ok (.ireturn, 1) := by decide +kernel
theorem d2_97 : decode method_3_code 97 = .ok (.iload_n 1, 1) := by decide +kernel
theorem d2_98 : decode method_3_code 98 = .ok (.ifCond .le 5, 3) := by decide +kernel
theorem d2_101 : decode method_3_code 101 = .ok (.iconst 1, 1) := by decide +kernel
theorem d2_102 : decode method_3_code 102 = .ok (.ireturn, 1) := by decide +kernel
theorem d2_103 : decode method_3_code 103 = .ok (.iconst 0, 1) := by decide +kernel
theorem d2_104 : decode method_3_code 104 = .ok (.ireturn, 1) := by decide +kernel
theorem pn2 : plainName "com/example/braided_tour/braidedtour/choice/LogitDrawPinLaw" = true := by first | (simp [plainName, overriddenIn]; done) | decide +kernel
theorem ef2 (m : MethodId) (p1 : Int32) (p2 : Int32) (p3 : Int32) (p4 : Int32) (p5 : Int32) : entryFrame m #[(.int p1), (.int p2), (.int p3), (.int p4), (.int p5)] 9 = mkF m 0 #[.val (.int p1), .val (.int p2), .val (.int p3), .val (.int p4), .val (.int p5), .unset, .unset, .unset, .unset] [] := by first | (simp [entryFrame, mkF, argsToLocals, Value.category]; done) | rfl
def own_exp (p1 : Int32) (p2 : Int32) (p3 : Int32) (p4 : Int32) (p5 : Int32) : Int32 := (if (0 : Int32) < p1 then (if p5 < ((16 : Int32) * p1) then (0 : Int32) else (if (0 : Int32) < p2 then (if p5 < ((16 : Int32) * (p1 + p2)) then (1 : Int32) else (if (0 : Int32) < p3 then (if p5 < ((16 : Int32) * ((p1 + p2) + p3)) then (2 : Int32) else (if (0 : Int32) < p4 then (if p5 < ((16 : Int32) * (((p1 + p2) + p3) + p4)) then (3 : Int32) else (if (0 : Int32) < p4 then (3 : Int32) else (if (0 : Int32) < p3 then (2 : Int32) else (if (0 : Int32) < p2 then (1 : Int32) else (0 : Int32))))) else (if (0 : Int32) < p4 then (3 : Int32) else (if (0 : Int32) < p3 then (2 : Int32) else (if (0 : Int32) < p2 then (1 : Int32) else (0 : Int32)))))) else (if (0 : Int32) < p4 then (if p5 < ((16 : Int32) * (((p1 + p2) + p3) + p4)) then (3 : Int32) else (if (0 : Int32) < p4 then (3 : Int32) else (if (0 : Int32) < p3 then (2 : Int32) else (if (0 : Int32) < p2 then (1 : Int32) else (0 : Int32))))) else (if (0 : Int32) < p4 then (3 : Int32) else (if (0 : Int32) < p3 then (2 : Int32) else (if (0 : Int32) < p2 then (1 : Int32) else (0 : Int32))))))) else (if (0 : Int32) < p3 then (if p5 < ((16 : Int32) * ((p1 + p2) + p3)) then (2 : Int32) else (if (0 : Int32) < p4 then (if p5 < ((16 : Int32) * (((p1 + p2) + p3) + p4)) then (3 : Int32) else (if (0 : Int32) < p4 then (3 : Int32) else (if (0 : Int32) < p3 then (2 : Int32) else (if (0 : Int32) < p2 then (1 : Int32) else (0 : Int32))))) else (if (0 : Int32) < p4 then (3 : Int32) else (if (0 : Int32) < p3 then (2 : Int32) else (if (0 : Int32) < p2 then (1 : Int32) else (0 : Int32)))))) else (if (0 : Int32) < p4 then (if p5 < ((16 : Int32) * (((p1 + p2) + p3) + p4)) then (3 : Int32) else (if (0 : Int32) < p4 then (3 : Int32) else (if (0 : Int32) < p3 then (2 : Int32) else (if (0 : Int32) < p2 then (1 : Int32) else (0 : Int32))))) else (if (0 : Int32) < p4 then (3 : Int32) else (if (0 : Int32) < p3 then (2 : Int32) else (if (0 : Int32) < p2 then (1 : Int32) else (0 : Int32)))))))) else (if (0 : Int32) < p2 then (if p5 < ((16 : Int32) * (p1 + p2)) then (1 : Int32) else (if (0 : Int32) < p3 then (if p5 < ((16 : Int32) * ((p1 + p2) + p3)) then (2 : Int32) else (if (0 : Int32) < p4 then (if p5 < ((16 : Int32) * (((p1 + p2) + p3) + p4)) then (3 : Int32) else (if (0 : Int32) < p4 then (3 : Int32) else (if (0 : Int32) < p3 then (2 : Int32) else (if (0 : Int32) < p2 then (1 : Int32) else (0 : Int32))))) else (if (0 : Int32) < p4 then (3 : Int32) else (if (0 : Int32) < p3 then (2 : Int32) else (if (0 : Int32) < p2 then (1 : Int32) else (0 : Int32)))))) else (if (0 : Int32) < p4 then (if p5 < ((16 : Int32) * (((p1 + p2) + p3) + p4)) then (3 : Int32) else (if (0 : Int32) < p4 then (3 : Int32) else (if (0 : Int32) < p3 then (2 : Int32) else (if (0 : Int32) < p2 then (1 : Int32) else (0 : Int32))))) else (if (0 : Int32) < p4 then (3 : Int32) else (if (0 : Int32) < p3 then (2 : Int32) else (if (0 : Int32) < p2 then (1 : Int32) else (0 : Int32))))))) else (if (0 : Int32) < p3 then (if p5 < ((16 : Int32) * ((p1 + p2) + p3)) then (2 : Int32) else (if (0 : Int32) < p4 then (if p5 < ((16 : Int32) * (((p1 + p2) + p3) + p4)) then (3 : Int32) else (if (0 : Int32) < p4 then (3 : Int32) else (if (0 : Int32) < p3 then (2 : Int32) else (if (0 : Int32) < p2 then (1 : Int32) else (0 : Int32))))) else (if (0 : Int32) < p4 then (3 : Int32) else (if (0 : Int32) < p3 then (2 : Int32) else (if (0 : Int32) < p2 then (1 : Int32) else (0 : Int32)))))) else (if (0 : Int32) < p4 then (if p5 < ((16 : Int32) * (((p1 + p2) + p3) + p4)) then (3 : Int32) else (if (0 : Int32) < p4 then (3 : Int32) else (if (0 : Int32) < p3 then (2 : Int32) else (if (0 : Int32) < p2 then (1 : Int32) else (0 : Int32))))) else (if (0 : Int32) < p4 then (3 : Int32) else (if (0 : Int32) < p3 then (2 : Int32) else (if (0 : Int32) < p2 then (1 : Int32) else (0 : Int32))))))))
def Q2 (Z : State) (p1 : Int32) (p2 : Int32) (p3 : Int32) (p4 : Int32) (p5 : Int32) (h0 : Heap) (n0 : Nat) (v : Option Value) (h : Heap) (L : List Loc) : Prop := v = some (.int (own_exp p1 p2 p3 p4 p5)) ∧ Fr n0 L ∧ h = h0
set_option maxRecDepth 65536 in
set_option maxHeartbeats 40000000 in
theorem rm2 (l : Launch) (Z : State) (a0 : Array Value) (hw : ∀ d ∈ tables_1, d.before a0 Z = true) (ws : List Jvm.Cond) (p1 : Int32) (p2 : Int32) (p3 : Int32) (p4 : Int32) (p5 : Int32) (h0 : Heap) (n0 : Nat) (Z0 : n0 ≤ h0.size) :
    MetFree l (⟨"com/example/braided_tour/braidedtour/choice/LogitDrawPinLaw", "expected", "(IIIII)I"⟩ : MethodName) (head1 (Jvm.Cond.code (⟨"com/example/braided_tour/braidedtour/choice/LogitDrawPinLaw", "expected", "(IIIII)I"⟩ : MethodName) method_3_code 9 (some .int) :: ws) ({ frames := 0, cells := 0, slots := 0, locals := 0 } : Room)) (fun a U => a = #[(.int p1), (.int p2), (.int p3), (.int p4), (.int p5)] ∧ Z.Warmed39 U.vm ∧ U.heap = h0) (fun _ _ _ _ _ => True) (fun _ U o U' => ∃ v L, o = .returned v ∧ Q2 Z p1 p2 p3 p4 p5 h0 n0 v U'.heap L ∧ FrameEnd U o U' L ({ frames := 0, cells := 0, slots := 0, locals := 0 } : Room).cells ({ frames := 0, cells := 0, slots := 0, locals := 0 } : Room).slots) := by
  refine MetFree.of_bodySF (plainFor_of_name pn2) hisR ?_
  intro p e s m args below meth c s₁ Bd hml0 hP hK
  obtain ⟨rfl, hZ, hh⟩ := hP
  have hx := Bd.exec
  have hby := Bd.bytes
  have hml : c.maxLocals = 9 := hml0
  have hown : s.vm.findClass "com/example/braided_tour/braidedtour/choice/LogitDrawPinLaw" = some m.cls := findClass_of_methodNamed Bd.named
  have hnm := (name_of_methodNamed Bd.named Bd.method).1
  have X0 : Stand p l e ({ frames := 0, cells := 0, slots := 0, locals := 0 } : Room) s m #[(.int p1), (.int p2), (.int p3), (.int p4), (.int p5)] below meth c s₁ [] 0 0 := Stand.of_body Bd
  have e0 : s₁.heap = h0 := by rw [← hh, Bd.state]; rfl
  have N0 := Fr.nil n0
  have pre0 : ∀ t, Steps p.tables e below (s₁.setTop (mkF m 0 #[.val (.int p1), .val (.int p2), .val (.int p3), .val (.int p4), .val (.int p5), .unset, .unset, .unset, .unset] [])) t → Steps p.tables e below (s₁.setTop (entryFrame m #[(.int p1), (.int p2), (.int p3), (.int p4), (.int p5)] 9)) t := fun t k => castTop (ef2 m p1 p2 p3 p4 p5) k
  have c1 : ∀ t, Steps p.tables e below (s₁.setTop (mkF m 22 #[.val (.int p1), .val (.int p2), .val (.int p3), .val (.int p4), .val (.int p5), .val (.int p1), .val (.int (p1 + p2)), .val (.int ((p1 + p2) + p3)), .val (.int (((p1 + p2) + p3) + p4))] [(.int p1)])) t → Steps p.tables e below (s₁.setTop (entryFrame m #[(.int p1), (.int p2), (.int p3), (.int p4), (.int p5)] 9)) t := fun t kt => by
    refine pre0 _ ?_
    show Steps p.tables e below (s₁.setTop (mkF m 0 #[.val (.int p1), .val (.int p2), .val (.int p3), .val (.int p4), .val (.int p5), .unset, .unset, .unset, .unset] [])) _
    refine XS.iloadN X0.here hx rfl (hb hby d2_0) rfl ?_
    show Steps p.tables e below (s₁.setTop (mkF m 1 #[.val (.int p1), .val (.int p2), .val (.int p3), .val (.int p4), .val (.int p5), .unset, .unset, .unset, .unset] [(.int p1)])) _
    refine XS.istore X0.here hx rfl (hb hby d2_1) rfl (l' := #[.val (.int p1), .val (.int p2), .val (.int p3), .val (.int p4), .val (.int p5), .val (.int p1), .unset, .unset, .unset]) rfl ?_
    show Steps p.tables e below (s₁.setTop (mkF m 3 #[.val (.int p1), .val (.int p2), .val (.int p3), .val (.int p4), .val (.int p5), .val (.int p1), .unset, .unset, .unset] [])) _
    refine XS.iload X0.here hx rfl (hb hby d2_3) rfl ?_
    show Steps p.tables e below (s₁.setTop (mkF m 5 #[.val (.int p1), .val (.int p2), .val (.int p3), .val (.int p4), .val (.int p5), .val (.int p1), .unset, .unset, .unset] [(.int p1)])) _
    refine XS.iloadN X0.here hx rfl (hb hby d2_5) rfl ?_
    show Steps p.tables e below (s₁.setTop (mkF m 6 #[.val (.int p1), .val (.int p2), .val (.int p3), .val (.int p4), .val (.int p5), .val (.int p1), .unset, .unset, .unset] [(.int p2), (.int p1)])) _
    refine XS.iadd X0.here hx rfl (hb hby d2_6) rfl ?_
    show Steps p.tables e below (s₁.setTop (mkF m 7 #[.val (.int p1), .val (.int p2), .val (.int p3), .val (.int p4), .val (.int p5), .val (.int p1), .unset, .unset, .unset] [(.int (p1 + p2))])) _
    refine XS.istore X0.here hx rfl (hb hby d2_7) rfl (l' := #[.val (.int p1), .val (.int p2), .val (.int p3), .val (.int p4), .val (.int p5), .val (.int p1), .val (.int (p1 + p2)), .unset, .unset]) rfl ?_
    show Steps p.tables e below (s₁.setTop (mkF m 9 #[.val (.int p1), .val (.int p2), .val (.int p3), .val (.int p4), .val (.int p5), .val (.int p1), .val (.int (p1 + p2)), .unset, .unset] [])) _
    refine XS.iload X0.here hx rfl (hb hby d2_9) rfl ?_
    show Steps p.tables e below (s₁.setTop (mkF m 11 #[.val (.int p1), .val (.int p2), .val (.int p3), .val (.int p4), .val (.int p5), .val (.int p1), .val (.int (p1 + p2)), .unset, .unset] [(.int (p1 + p2))])) _
    refine XS.iloadN X0.here hx rfl (hb hby d2_11) rfl ?_
    show Steps p.tables e below (s₁.setTop (mkF m 12 #[.val (.int p1), .val (.int p2), .val (.int p3), .val (.int p4), .val (.int p5), .val (.int p1), .val (.int (p1 + p2)), .unset, .unset] [(.int p3), (.int (p1 + p2))])) _
    refine XS.iadd X0.here hx rfl (hb hby d2_12) rfl ?_
    show Steps p.tables e below (s₁.setTop (mkF m 13 #[.val (.int p1), .val (.int p2), .val (.int p3), .val (.int p4), .val (.int p5), .val (.int p1), .val (.int (p1 + p2)), .unset, .unset] [(.int ((p1 + p2) + p3))])) _
    refine XS.istore X0.here hx rfl (hb hby d2_13) rfl (l' := #[.val (.int p1), .val (.int p2), .val (.int p3), .val (.int p4), .val (.int p5), .val (.int p1), .val (.int (p1 + p2)), .val (.int ((p1 + p2) + p3)), .unset]) rfl ?_
    show Steps p.tables e below (s₁.setTop (mkF m 15 #[.val (.int p1), .val (.int p2), .val (.int p3), .val (.int p4), .val (.int p5), .val (.int p1), .val (.int (p1 + p2)), .val (.int ((p1 + p2) + p3)), .unset] [])) _
    refine XS.iload X0.here hx rfl (hb hby d2_15) rfl ?_
    show Steps p.tables e below (s₁.setTop (mkF m 17 #[.val (.int p1), .val (.int p2), .val (.int p3), .val (.int p4), .val (.int p5), .val (.int p1), .val (.int (p1 + p2)), .val (.int ((p1 + p2) + p3)), .unset] [(.int ((p1 + p2) + p3))])) _
    refine XS.iloadN X0.here hx rfl (hb hby d2_17) rfl ?_
    show Steps p.tables e below (s₁.setTop (mkF m 18 #[.val (.int p1), .val (.int p2), .val (.int p3), .val (.int p4), .val (.int p5), .val (.int p1), .val (.int (p1 + p2)), .val (.int ((p1 + p2) + p3)), .unset] [(.int p4), (.int ((p1 + p2) + p3))])) _
    refine XS.iadd X0.here hx rfl (hb hby d2_18) rfl ?_
    show Steps p.tables e below (s₁.setTop (mkF m 19 #[.val (.int p1), .val (.int p2), .val (.int p3), .val (.int p4), .val (.int p5), .val (.int p1), .val (.int (p1 + p2)), .val (.int ((p1 + p2) + p3)), .unset] [(.int (((p1 + p2) + p3) + p4))])) _
    refine XS.istore X0.here hx rfl (hb hby d2_19) rfl (l' := #[.val (.int p1), .val (.int p2), .val (.int p3), .val (.int p4), .val (.int p5), .val (.int p1), .val (.int (p1 + p2)), .val (.int ((p1 + p2) + p3)), .val (.int (((p1 + p2) + p3) + p4))]) rfl ?_
    show Steps p.tables e below (s₁.setTop (mkF m 21 #[.val (.int p1), .val (.int p2), .val (.int p3), .val (.int p4), .val (.int p5), .val (.int p1), .val (.int (p1 + p2)), .val (.int ((p1 + p2) + p3)), .val (.int (((p1 + p2) + p3) + p4))] [])) _
    refine XS.iloadN X0.here hx rfl (hb hby d2_21) rfl ?_
    exact kt
  by_cases hc22 : (0 : Int32) < p1
  · have c2 : ∀ t, Steps p.tables e below (s₁.setTop (mkF m 32 #[.val (.int p1), .val (.int p2), .val (.int p3), .val (.int p4), .val (.int p5), .val (.int p1), .val (.int (p1 + p2)), .val (.int ((p1 + p2) + p3)), .val (.int (((p1 + p2) + p3) + p4))] [(.int ((16 : Int32) * p1)), (.int p5)])) t → Steps p.tables e below (s₁.setTop (entryFrame m #[(.int p1), (.int p2), (.int p3), (.int p4), (.int p5)] 9)) t := fun t kt => by
      refine c1 _ ?_
      show Steps p.tables e below (s₁.setTop (mkF m 22 #[.val (.int p1), .val (.int p2), .val (.int p3), .val (.int p4), .val (.int p5), .val (.int p1), .val (.int (p1 + p2)), .val (.int ((p1 + p2) + p3)), .val (.int (((p1 + p2) + p3) + p4))] [(.int p1)])) _
      refine XS.ifNo X0.here hx rfl (hb hby d2_22) rfl ((if0 _ _).trans (tlt hc22).2.2.2) ?_
      show Steps p.tables e below (s₁.setTop (mkF m 25 #[.val (.int p1), .val (.int p2), .val (.int p3), .val (.int p4), .val (.int p5), .val (.int p1), .val (.int (p1 + p2)), .val (.int ((p1 + p2) + p3)), .val (.int (((p1 + p2) + p3) + p4))] [])) _
      refine XS.iload X0.here hx rfl (hb hby d2_25) rfl ?_
      show Steps p.tables e below (s₁.setTop (mkF m 27 #[.val (.int p1), .val (.int p2), .val (.int p3), .val (.int p4), .val (.int p5), .val (.int p1), .val (.int (p1 + p2)), .val (.int ((p1 + p2) + p3)), .val (.int (((p1 + p2) + p3) + p4))] [(.int p5)])) _
      refine XS.bipush X0.here hx rfl (hb hby d2_27) ?_
      show Steps p.tables e below (s₁.setTop (mkF m 29 #[.val (.int p1), .val (.int p2), .val (.int p3), .val (.int p4), .val (.int p5), .val (.int p1), .val (.int (p1 + p2)), .val (.int ((p1 + p2) + p3)), .val (.int (((p1 + p2) + p3) + p4))] [(.int (16 : Int32)), (.int p5)])) _
      refine XS.iload X0.here hx rfl (hb hby d2_29) rfl ?_
      show Steps p.tables e below (s₁.setTop (mkF m 31 #[.val (.int p1), .val (.int p2), .val (.int p3), .val (.int p4), .val (.int p5), .val (.int p1), .val (.int (p1 + p2)), .val (.int ((p1 + p2) + p3)), .val (.int (((p1 + p2) + p3) + p4))] [(.int p1), (.int (16 : Int32)), (.int p5)])) _
      refine XS.imul X0.here hx rfl (hb hby d2_31) rfl ?_
      exact kt
    by_cases hc32 : p5 < ((16 : Int32) * p1)
    · obtain ⟨fs, hr, hrun, hended, hW, hsame⟩ := X0.leave (v := some (.int (0 : Int32))) (fun h => by rw [Bd.returns] at h; cases h)
      refine ⟨_, _, c2 _ ?_, hrun, hended, _, _, rfl, ?_, ⟨_, rfl⟩, hW, hsame.mono (by decide) (by decide)⟩
      · show Steps p.tables e below (s₁.setTop (mkF m 32 #[.val (.int p1), .val (.int p2), .val (.int p3), .val (.int p4), .val (.int p5), .val (.int p1), .val (.int (p1 + p2)), .val (.int ((p1 + p2) + p3)), .val (.int (((p1 + p2) + p3) + p4))] [(.int ((16 : Int32) * p1)), (.int p5)])) _
        refine XS.icmpNo X0.here hx rfl (hb hby d2_32) rfl (tlt hc32).2.1 ?_
        show Steps p.tables e below (s₁.setTop (mkF m 35 #[.val (.int p1), .val (.int p2), .val (.int p3), .val (.int p4), .val (.int p5), .val (.int p1), .val (.int (p1 + p2)), .val (.int ((p1 + p2) + p3)), .val (.int (((p1 + p2) + p3) + p4))] [])) _
        refine XS.iconst X0.here hx rfl (hb hby d2_35) ?_
        show Steps p.tables e below (s₁.setTop (mkF m 36 #[.val (.int p1), .val (.int p2), .val (.int p3), .val (.int p4), .val (.int p5), .val (.int p1), .val (.int (p1 + p2)), .val (.int ((p1 + p2) + p3)), .val (.int (((p1 + p2) + p3) + p4))] [(.int (0 : Int32))])) _
        exact retI X0 hx Bd.returns (hb hby d2_36) hr
      · show Q2 Z p1 p2 p3 p4 p5 h0 n0 _ s₁.heap _
        rw [e0]
        have hv : (own_exp p1 p2 p3 p4 p5) = (0 : Int32) := by unfold own_exp; rw [if_pos hc22, if_pos hc32]
        exact ⟨by rw [hv], N0, rfl⟩
    · have c3 : ∀ t, Steps p.tables e below (s₁.setTop (mkF m 38 #[.val (.int p1), .val (.int p2), .val (.int p3), .val (.int p4), .val (.int p5), .val (.int p1), .val (.int (p1 + p2)), .val (.int ((p1 + p2) + p3)), .val (.int (((p1 + p2) + p3) + p4))] [(.int p2)])) t → Steps p.tables e below (s₁.setTop (entryFrame m #[(.int p1), (.int p2), (.int p3), (.int p4), (.int p5)] 9)) t := fun t kt => by
        refine c2 _ ?_
        show Steps p.tables e below (s₁.setTop (mkF m 32 #[.val (.int p1), .val (.int p2), .val (.int p3), .val (.int p4), .val (.int p5), .val (.int p1), .val (.int (p1 + p2)), .val (.int ((p1 + p2) + p3)), .val (.int (((p1 + p2) + p3) + p4))] [(.int ((16 : Int32) * p1)), (.int p5)])) _
        refine XS.icmpYes X0.here hx rfl (pc0 := 32) (pc' := 37) rfl (hb hby d2_32) rfl (flt hc32).2.1 (by decide) (by decide) ?_
        show Steps p.tables e below (s₁.setTop (mkF m 37 #[.val (.int p1), .val (.int p2), .val (.int p3), .val (.int p4), .val (.int p5), .val (.int p1), .val (.int (p1 + p2)), .val (.int ((p1 + p2) + p3)), .val (.int (((p1 + p2) + p3) + p4))] [])) _
        refine XS.iloadN X0.here hx rfl (hb hby d2_37) rfl ?_
        exact kt
      by_cases hc38 : (0 : Int32) < p2
      · have c4 : ∀ t, Steps p.tables e below (s₁.setTop (mkF m 48 #[.val (.int p1), .val (.int p2), .val (.int p3), .val (.int p4), .val (.int p5), .val (.int p1), .val (.int (p1 + p2)), .val (.int ((p1 + p2) + p3)), .val (.int (((p1 + p2) + p3) + p4))] [(.int ((16 : Int32) * (p1 + p2))), (.int p5)])) t → Steps p.tables e below (s₁.setTop (entryFrame m #[(.int p1), (.int p2), (.int p3), (.int p4), (.int p5)] 9)) t := fun t kt => by
          refine c3 _ ?_
          show Steps p.tables e below (s₁.setTop (mkF m 38 #[.val (.int p1), .val (.int p2), .val (.int p3), .val (.int p4), .val (.int p5), .val (.int p1), .val (.int (p1 + p2)), .val (.int ((p1 + p2) + p3)), .val (.int (((p1 + p2) + p3) + p4))] [(.int p2)])) _
          refine XS.ifNo X0.here hx rfl (hb hby d2_38) rfl ((if0 _ _).trans (tlt hc38).2.2.2) ?_
          show Steps p.tables e below (s₁.setTop (mkF m 41 #[.val (.int p1), .val (.int p2), .val (.int p3), .val (.int p4), .val (.int p5), .val (.int p1), .val (.int (p1 + p2)), .val (.int ((p1 + p2) + p3)), .val (.int (((p1 + p2) + p3) + p4))] [])) _
          refine XS.iload X0.here hx rfl (hb hby d2_41) rfl ?_
          show Steps p.tables e below (s₁.setTop (mkF m 43 #[.val (.int p1), .val (.int p2), .val (.int p3), .val (.int p4), .val (.int p5), .val (.int p1), .val (.int (p1 + p2)), .val (.int ((p1 + p2) + p3)), .val (.int (((p1 + p2) + p3) + p4))] [(.int p5)])) _
          refine XS.bipush X0.here hx rfl (hb hby d2_43) ?_
          show Steps p.tables e below (s₁.setTop (mkF m 45 #[.val (.int p1), .val (.int p2), .val (.int p3), .val (.int p4), .val (.int p5), .val (.int p1), .val (.int (p1 + p2)), .val (.int ((p1 + p2) + p3)), .val (.int (((p1 + p2) + p3) + p4))] [(.int (16 : Int32)), (.int p5)])) _
          refine XS.iload X0.here hx rfl (hb hby d2_45) rfl ?_
          show Steps p.tables e below (s₁.setTop (mkF m 47 #[.val (.int p1), .val (.int p2), .val (.int p3), .val (.int p4), .val (.int p5), .val (.int p1), .val (.int (p1 + p2)), .val (.int ((p1 + p2) + p3)), .val (.int (((p1 + p2) + p3) + p4))] [(.int (p1 + p2)), (.int (16 : Int32)), (.int p5)])) _
          refine XS.imul X0.here hx rfl (hb hby d2_47) rfl ?_
          exact kt
        by_cases hc48 : p5 < ((16 : Int32) * (p1 + p2))
        · obtain ⟨fs, hr, hrun, hended, hW, hsame⟩ := X0.leave (v := some (.int (1 : Int32))) (fun h => by rw [Bd.returns] at h; cases h)
          refine ⟨_, _, c4 _ ?_, hrun, hended, _, _, rfl, ?_, ⟨_, rfl⟩, hW, hsame.mono (by decide) (by decide)⟩
          · show Steps p.tables e below (s₁.setTop (mkF m 48 #[.val (.int p1), .val (.int p2), .val (.int p3), .val (.int p4), .val (.int p5), .val (.int p1), .val (.int (p1 + p2)), .val (.int ((p1 + p2) + p3)), .val (.int (((p1 + p2) + p3) + p4))] [(.int ((16 : Int32) * (p1 + p2))), (.int p5)])) _
            refine XS.icmpNo X0.here hx rfl (hb hby d2_48) rfl (tlt hc48).2.1 ?_
            show Steps p.tables e below (s₁.setTop (mkF m 51 #[.val (.int p1), .val (.int p2), .val (.int p3), .val (.int p4), .val (.int p5), .val (.int p1), .val (.int (p1 + p2)), .val (.int ((p1 + p2) + p3)), .val (.int (((p1 + p2) + p3) + p4))] [])) _
            refine XS.iconst X0.here hx rfl (hb hby d2_51) ?_
            show Steps p.tables e below (s₁.setTop (mkF m 52 #[.val (.int p1), .val (.int p2), .val (.int p3), .val (.int p4), .val (.int p5), .val (.int p1), .val (.int (p1 + p2)), .val (.int ((p1 + p2) + p3)), .val (.int (((p1 + p2) + p3) + p4))] [(.int (1 : Int32))])) _
            exact retI X0 hx Bd.returns (hb hby d2_52) hr
          · show Q2 Z p1 p2 p3 p4 p5 h0 n0 _ s₁.heap _
            rw [e0]
            have hv : (own_exp p1 p2 p3 p4 p5) = (1 : Int32) := by unfold own_exp; rw [if_pos hc22, if_neg hc32, if_pos hc38, if_pos hc48]
            exact ⟨by rw [hv], N0, rfl⟩
        · have c5 : ∀ t, Steps p.tables e below (s₁.setTop (mkF m 54 #[.val (.int p1), .val (.int p2), .val (.int p3), .val (.int p4), .val (.int p5), .val (.int p1), .val (.int (p1 + p2)), .val (.int ((p1 + p2) + p3)), .val (.int (((p1 + p2) + p3) + p4))] [(.int p3)])) t → Steps p.tables e below (s₁.setTop (entryFrame m #[(.int p1), (.int p2), (.int p3), (.int p4), (.int p5)] 9)) t := fun t kt => by
            refine c4 _ ?_
            show Steps p.tables e below (s₁.setTop (mkF m 48 #[.val (.int p1), .val (.int p2), .val (.int p3), .val (.int p4), .val (.int p5), .val (.int p1), .val (.int (p1 + p2)), .val (.int ((p1 + p2) + p3)), .val (.int (((p1 + p2) + p3) + p4))] [(.int ((16 : Int32) * (p1 + p2))), (.int p5)])) _
            refine XS.icmpYes X0.here hx rfl (pc0 := 48) (pc' := 53) rfl (hb hby d2_48) rfl (flt hc48).2.1 (by decide) (by decide) ?_
            show Steps p.tables e below (s₁.setTop (mkF m 53 #[.val (.int p1), .val (.int p2), .val (.int p3), .val (.int p4), .val (.int p5), .val (.int p1), .val (.int (p1 + p2)), .val (.int ((p1 + p2) + p3)), .val (.int (((p1 + p2) + p3) + p4))] [])) _
            refine XS.iloadN X0.here hx rfl (hb hby d2_53) rfl ?_
            exact kt
          by_cases hc54 : (0 : Int32) < p3
          · have c6 : ∀ t, Steps p.tables e below (s₁.setTop (mkF m 64 #[.val (.int p1), .val (.int p2), .val (.int p3), .val (.int p4), .val (.int p5), .val (.int p1), .val (.int (p1 + p2)), .val (.int ((p1 + p2) + p3)), .val (.int (((p1 + p2) + p3) + p4))] [(.int ((16 : Int32) * ((p1 + p2) + p3))), (.int p5)])) t → Steps p.tables e below (s₁.setTop (entryFrame m #[(.int p1), (.int p2), (.int p3), (.int p4), (.int p5)] 9)) t := fun t kt => by
              refine c5 _ ?_
              show Steps p.tables e below (s₁.setTop (mkF m 54 #[.val (.int p1), .val (.int p2), .val (.int p3), .val (.int p4), .val (.int p5), .val (.int p1), .val (.int (p1 + p2)), .val (.int ((p1 + p2) + p3)), .val (.int (((p1 + p2) + p3) + p4))] [(.int p3)])) _
              refine XS.ifNo X0.here hx rfl (hb hby d2_54) rfl ((if0 _ _).trans (tlt hc54).2.2.2) ?_
              show Steps p.tables e below (s₁.setTop (mkF m 57 #[.val (.int p1), .val (.int p2), .val (.int p3), .val (.int p4), .val (.int p5), .val (.int p1), .val (.int (p1 + p2)), .val (.int ((p1 + p2) + p3)), .val (.int (((p1 + p2) + p3) + p4))] [])) _
              refine XS.iload X0.here hx rfl (hb hby d2_57) rfl ?_
              show Steps p.tables e below (s₁.setTop (mkF m 59 #[.val (.int p1), .val (.int p2), .val (.int p3), .val (.int p4), .val (.int p5), .val (.int p1), .val (.int (p1 + p2)), .val (.int ((p1 + p2) + p3)), .val (.int (((p1 + p2) + p3) + p4))] [(.int p5)])) _
              refine XS.bipush X0.here hx rfl (hb hby d2_59) ?_
              show Steps p.tables e below (s₁.setTop (mkF m 61 #[.val (.int p1), .val (.int p2), .val (.int p3), .val (.int p4), .val (.int p5), .val (.int p1), .val (.int (p1 + p2)), .val (.int ((p1 + p2) + p3)), .val (.int (((p1 + p2) + p3) + p4))] [(.int (16 : Int32)), (.int p5)])) _
              refine XS.iload X0.here hx rfl (hb hby d2_61) rfl ?_
              show Steps p.tables e below (s₁.setTop (mkF m 63 #[.val (.int p1), .val (.int p2), .val (.int p3), .val (.int p4), .val (.int p5), .val (.int p1), .val (.int (p1 + p2)), .val (.int ((p1 + p2) + p3)), .val (.int (((p1 + p2) + p3) + p4))] [(.int ((p1 + p2) + p3)), (.int (16 : Int32)), (.int p5)])) _
              refine XS.imul X0.here hx rfl (hb hby d2_63) rfl ?_
              exact kt
            by_cases hc64 : p5 < ((16 : Int32) * ((p1 + p2) + p3))
            · obtain ⟨fs, hr, hrun, hended, hW, hsame⟩ := X0.leave (v := some (.int (2 : Int32))) (fun h => by rw [Bd.returns] at h; cases h)
              refine ⟨_, _, c6 _ ?_, hrun, hended, _, _, rfl, ?_, ⟨_, rfl⟩, hW, hsame.mono (by decide) (by decide)⟩
              · show Steps p.tables e below (s₁.setTop (mkF m 64 #[.val (.int p1), .val (.int p2), .val (.int p3), .val (.int p4), .val (.int p5), .val (.int p1), .val (.int (p1 + p2)), .val (.int ((p1 + p2) + p3)), .val (.int (((p1 + p2) + p3) + p4))] [(.int ((16 : Int32) * ((p1 + p2) + p3))), (.int p5)])) _
                refine XS.icmpNo X0.here hx rfl (hb hby d2_64) rfl (tlt hc64).2.1 ?_
                show Steps p.tables e below (s₁.setTop (mkF m 67 #[.val (.int p1), .val (.int p2), .val (.int p3), .val (.int p4), .val (.int p5), .val (.int p1), .val (.int (p1 + p2)), .val (.int ((p1 + p2) + p3)), .val (.int (((p1 + p2) + p3) + p4))] [])) _
                refine XS.iconst X0.here hx rfl (hb hby d2_67) ?_
                show Steps p.tables e below (s₁.setTop (mkF m 68 #[.val (.int p1), .val (.int p2), .val (.int p3), .val (.int p4), .val (.int p5), .val (.int p1), .val (.int (p1 + p2)), .val (.int ((p1 + p2) + p3)), .val (.int (((p1 + p2) + p3) + p4))] [(.int (2 : Int32))])) _
                exact retI X0 hx Bd.returns (hb hby d2_68) hr
              · show Q2 Z p1 p2 p3 p4 p5 h0 n0 _ s₁.heap _
                rw [e0]
                have hv : (own_exp p1 p2 p3 p4 p5) = (2 : Int32) := by unfold own_exp; rw [if_pos hc22, if_neg hc32, if_pos hc38, if_neg hc48, if_pos hc54, if_pos hc64]
                exact ⟨by rw [hv], N0, rfl⟩
            · have c7 : ∀ t, Steps p.tables e below (s₁.setTop (mkF m 70 #[.val (.int p1), .val (.int p2), .val (.int p3), .val (.int p4), .val (.int p5), .val (.int p1), .val (.int (p1 + p2)), .val (.int ((p1 + p2) + p3)), .val (.int (((p1 + p2) + p3) + p4))] [(.int p4)])) t → Steps p.tables e below (s₁.setTop (entryFrame m #[(.int p1), (.int p2), (.int p3), (.int p4), (.int p5)] 9)) t := fun t kt => by
                refine c6 _ ?_
                show Steps p.tables e below (s₁.setTop (mkF m 64 #[.val (.int p1), .val (.int p2), .val (.int p3), .val (.int p4), .val (.int p5), .val (.int p1), .val (.int (p1 + p2)), .val (.int ((p1 + p2) + p3)), .val (.int (((p1 + p2) + p3) + p4))] [(.int ((16 : Int32) * ((p1 + p2) + p3))), (.int p5)])) _
                refine XS.icmpYes X0.here hx rfl (pc0 := 64) (pc' := 69) rfl (hb hby d2_64) rfl (flt hc64).2.1 (by decide) (by decide) ?_
                show Steps p.tables e below (s₁.setTop (mkF m 69 #[.val (.int p1), .val (.int p2), .val (.int p3), .val (.int p4), .val (.int p5), .val (.int p1), .val (.int (p1 + p2)), .val (.int ((p1 + p2) + p3)), .val (.int (((p1 + p2) + p3) + p4))] [])) _
                refine XS.iloadN X0.here hx rfl (hb hby d2_69) rfl ?_
                exact kt
              by_cases hc70 : (0 : Int32) < p4
              · have c8 : ∀ t, Steps p.tables e below (s₁.setTop (mkF m 80 #[.val (.int p1), .val (.int p2), .val (.int p3), .val (.int p4), .val (.int p5), .val (.int p1), .val (.int (p1 + p2)), .val (.int ((p1 + p2) + p3)), .val (.int (((p1 + p2) + p3) + p4))] [(.int ((16 : Int32) * (((p1 + p2) + p3) + p4))), (.int p5)])) t → Steps p.tables e below (s₁.setTop (entryFrame m #[(.int p1), (.int p2), (.int p3), (.int p4), (.int p5)] 9)) t := fun t kt => by
                  refine c7 _ ?_
                  show Steps p.tables e below (s₁.setTop (mkF m 70 #[.val (.int p1), .val (.int p2), .val (.int p3), .val (.int p4), .val (.int p5), .val (.int p1), .val (.int (p1 + p2)), .val (.int ((p1 + p2) + p3)), .val (.int (((p1 + p2) + p3) + p4))] [(.int p4)])) _
                  refine XS.ifNo X0.here hx rfl (hb hby d2_70) rfl ((if0 _ _).trans (tlt hc70).2.2.2) ?_
                  show Steps p.tables e below (s₁.setTop (mkF m 73 #[.val (.int p1), .val (.int p2), .val (.int p3), .val (.int p4), .val (.int p5), .val (.int p1), .val (.int (p1 + p2)), .val (.int ((p1 + p2) + p3)), .val (.int (((p1 + p2) + p3) + p4))] [])) _
                  refine XS.iload X0.here hx rfl (hb hby d2_73) rfl ?_
                  show Steps p.tables e below (s₁.setTop (mkF m 75 #[.val (.int p1), .val (.int p2), .val (.int p3), .val (.int p4), .val (.int p5), .val (.int p1), .val (.int (p1 + p2)), .val (.int ((p1 + p2) + p3)), .val (.int (((p1 + p2) + p3) + p4))] [(.int p5)])) _
                  refine XS.bipush X0.here hx rfl (hb hby d2_75) ?_
                  show Steps p.tables e below (s₁.setTop (mkF m 77 #[.val (.int p1), .val (.int p2), .val (.int p3), .val (.int p4), .val (.int p5), .val (.int p1), .val (.int (p1 + p2)), .val (.int ((p1 + p2) + p3)), .val (.int (((p1 + p2) + p3) + p4))] [(.int (16 : Int32)), (.int p5)])) _
                  refine XS.iload X0.here hx rfl (hb hby d2_77) rfl ?_
                  show Steps p.tables e below (s₁.setTop (mkF m 79 #[.val (.int p1), .val (.int p2), .val (.int p3), .val (.int p4), .val (.int p5), .val (.int p1), .val (.int (p1 + p2)), .val (.int ((p1 + p2) + p3)), .val (.int (((p1 + p2) + p3) + p4))] [(.int (((p1 + p2) + p3) + p4)), (.int (16 : Int32)), (.int p5)])) _
                  refine XS.imul X0.here hx rfl (hb hby d2_79) rfl ?_
                  exact kt
                by_cases hc80 : p5 < ((16 : Int32) * (((p1 + p2) + p3) + p4))
                · obtain ⟨fs, hr, hrun, hended, hW, hsame⟩ := X0.leave (v := some (.int (3 : Int32))) (fun h => by rw [Bd.returns] at h; cases h)
                  refine ⟨_, _, c8 _ ?_, hrun, hended, _, _, rfl, ?_, ⟨_, rfl⟩, hW, hsame.mono (by decide) (by decide)⟩
                  · show Steps p.tables e below (s₁.setTop (mkF m 80 #[.val (.int p1), .val (.int p2), .val (.int p3), .val (.int p4), .val (.int p5), .val (.int p1), .val (.int (p1 + p2)), .val (.int ((p1 + p2) + p3)), .val (.int (((p1 + p2) + p3) + p4))] [(.int ((16 : Int32) * (((p1 + p2) + p3) + p4))), (.int p5)])) _
                    refine XS.icmpNo X0.here hx rfl (hb hby d2_80) rfl (tlt hc80).2.1 ?_
                    show Steps p.tables e below (s₁.setTop (mkF m 83 #[.val (.int p1), .val (.int p2), .val (.int p3), .val (.int p4), .val (.int p5), .val (.int p1), .val (.int (p1 + p2)), .val (.int ((p1 + p2) + p3)), .val (.int (((p1 + p2) + p3) + p4))] [])) _
                    refine XS.iconst X0.here hx rfl (hb hby d2_83) ?_
                    show Steps p.tables e below (s₁.setTop (mkF m 84 #[.val (.int p1), .val (.int p2), .val (.int p3), .val (.int p4), .val (.int p5), .val (.int p1), .val (.int (p1 + p2)), .val (.int ((p1 + p2) + p3)), .val (.int (((p1 + p2) + p3) + p4))] [(.int (3 : Int32))])) _
                    exact retI X0 hx Bd.returns (hb hby d2_84) hr
                  · show Q2 Z p1 p2 p3 p4 p5 h0 n0 _ s₁.heap _
                    rw [e0]
                    have hv : (own_exp p1 p2 p3 p4 p5) = (3 : Int32) := by unfold own_exp; rw [if_pos hc22, if_neg hc32, if_pos hc38, if_neg hc48, if_pos hc54, if_neg hc64, if_pos hc70, if_pos hc80]
                    exact ⟨by rw [hv], N0, rfl⟩
                · have c9 : ∀ t, Steps p.tables e below (s₁.setTop (mkF m 86 #[.val (.int p1), .val (.int p2), .val (.int p3), .val (.int p4), .val (.int p5), .val (.int p1), .val (.int (p1 + p2)), .val (.int ((p1 + p2) + p3)), .val (.int (((p1 + p2) + p3) + p4))] [(.int p4)])) t → Steps p.tables e below (s₁.setTop (entryFrame m #[(.int p1), (.int p2), (.int p3), (.int p4), (.int p5)] 9)) t := fun t kt => by
                    refine c8 _ ?_
                    show Steps p.tables e below (s₁.setTop (mkF m 80 #[.val (.int p1), .val (.int p2), .val (.int p3), .val (.int p4), .val (.int p5), .val (.int p1), .val (.int (p1 + p2)), .val (.int ((p1 + p2) + p3)), .val (.int (((p1 + p2) + p3) + p4))] [(.int ((16 : Int32) * (((p1 + p2) + p3) + p4))), (.int p5)])) _
                    refine XS.icmpYes X0.here hx rfl (pc0 := 80) (pc' := 85) rfl (hb hby d2_80) rfl (flt hc80).2.1 (by decide) (by decide) ?_
                    show Steps p.tables e below (s₁.setTop (mkF m 85 #[.val (.int p1), .val (.int p2), .val (.int p3), .val (.int p4), .val (.int p5), .val (.int p1), .val (.int (p1 + p2)), .val (.int ((p1 + p2) + p3)), .val (.int (((p1 + p2) + p3) + p4))] [])) _
                    refine XS.iloadN X0.here hx rfl (hb hby d2_85) rfl ?_
                    exact kt
                  by_cases hc86 : (0 : Int32) < p4
                  · obtain ⟨fs, hr, hrun, hended, hW, hsame⟩ := X0.leave (v := some (.int (3 : Int32))) (fun h => by rw [Bd.returns] at h; cases h)
                    refine ⟨_, _, c9 _ ?_, hrun, hended, _, _, rfl, ?_, ⟨_, rfl⟩, hW, hsame.mono (by decide) (by decide)⟩
                    · show Steps p.tables e below (s₁.setTop (mkF m 86 #[.val (.int p1), .val (.int p2), .val (.int p3), .val (.int p4), .val (.int p5), .val (.int p1), .val (.int (p1 + p2)), .val (.int ((p1 + p2) + p3)), .val (.int (((p1 + p2) + p3) + p4))] [(.int p4)])) _
                      refine XS.ifNo X0.here hx rfl (hb hby d2_86) rfl ((if0 _ _).trans (tlt hc86).2.2.2) ?_
                      show Steps p.tables e below (s₁.setTop (mkF m 89 #[.val (.int p1), .val (.int p2), .val (.int p3), .val (.int p4), .val (.int p5), .val (.int p1), .val (.int (p1 + p2)), .val (.int ((p1 + p2) + p3)), .val (.int (((p1 + p2) + p3) + p4))] [])) _
                      refine XS.iconst X0.here hx rfl (hb hby d2_89) ?_
                      show Steps p.tables e below (s₁.setTop (mkF m 90 #[.val (.int p1), .val (.int p2), .val (.int p3), .val (.int p4), .val (.int p5), .val (.int p1), .val (.int (p1 + p2)), .val (.int ((p1 + p2) + p3)), .val (.int (((p1 + p2) + p3) + p4))] [(.int (3 : Int32))])) _
                      exact retI X0 hx Bd.returns (hb hby d2_90) hr
                    · show Q2 Z p1 p2 p3 p4 p5 h0 n0 _ s₁.heap _
                      rw [e0]
                      have hv : (own_exp p1 p2 p3 p4 p5) = (3 : Int32) := by unfold own_exp; rw [if_pos hc22, if_neg hc32, if_pos hc38, if_neg hc48, if_pos hc54, if_neg hc64, if_pos hc70, if_neg hc80, if_pos hc86]
                      exact ⟨by rw [hv], N0, rfl⟩
                  · have c10 : ∀ t, Steps p.tables e below (s₁.setTop (mkF m 92 #[.val (.int p1), .val (.int p2), .val (.int p3), .val (.int p4), .val (.int p5), .val (.int p1), .val (.int (p1 + p2)), .val (.int ((p1 + p2) + p3)), .val (.int (((p1 + p2) + p3) + p4))] [(.int p3)])) t → Steps p.tables e below (s₁.setTop (entryFrame m #[(.int p1), (.int p2), (.int p3), (.int p4), (.int p5)] 9)) t := fun t kt => by
                      refine c9 _ ?_
                      show Steps p.tables e below (s₁.setTop (mkF m 86 #[.val (.int p1), .val (.int p2), .val (.int p3), .val (.int p4), .val (.int p5), .val (.int p1), .val (.int (p1 + p2)), .val (.int ((p1 + p2) + p3)), .val (.int (((p1 + p2) + p3) + p4))] [(.int p4)])) _
                      refine XS.ifYes X0.here hx rfl (pc0 := 86) (pc' := 91) rfl (hb hby d2_86) rfl ((if0 _ _).trans (flt hc86).2.2.2) (by decide) (by decide) ?_
                      show Steps p.tables e below (s₁.setTop (mkF m 91 #[.val (.int p1), .val (.int p2), .val (.int p3), .val (.int p4), .val (.int p5), .val (.int p1), .val (.int (p1 + p2)), .val (.int ((p1 + p2) + p3)), .val (.int (((p1 + p2) + p3) + p4))] [])) _
                      refine XS.iloadN X0.here hx rfl (hb hby d2_91) rfl ?_
                      exact kt
                    by_cases hc92 : (0 : Int32) < p3
                    · obtain ⟨fs, hr, hrun, hended, hW, hsame⟩ := X0.leave (v := some (.int (2 : Int32))) (fun h => by rw [Bd.returns] at h; cases h)
                      refine ⟨_, _, c10 _ ?_, hrun, hended, _, _, rfl, ?_, ⟨_, rfl⟩, hW, hsame.mono (by decide) (by decide)⟩
                      · show Steps p.tables e below (s₁.setTop (mkF m 92 #[.val (.int p1), .val (.int p2), .val (.int p3), .val (.int p4), .val (.int p5), .val (.int p1), .val (.int (p1 + p2)), .val (.int ((p1 + p2) + p3)), .val (.int (((p1 + p2) + p3) + p4))] [(.int p3)])) _
                        refine XS.ifNo X0.here hx rfl (hb hby d2_92) rfl ((if0 _ _).trans (tlt hc92).2.2.2) ?_
                        show Steps p.tables e below (s₁.setTop (mkF m 95 #[.val (.int p1), .val (.int p2), .val (.int p3), .val (.int p4), .val (.int p5), .val (.int p1), .val (.int (p1 + p2)), .val (.int ((p1 + p2) + p3)), .val (.int (((p1 + p2) + p3) + p4))] [])) _
                        refine XS.iconst X0.here hx rfl (hb hby d2_95) ?_
                        show Steps p.tables e below (s₁.setTop (mkF m 96 #[.val (.int p1), .val (.int p2), .val (.int p3), .val (.int p4), .val (.int p5), .val (.int p1), .val (.int (p1 + p2)), .val (.int ((p1 + p2) + p3)), .val (.int (((p1 + p2) + p3) + p4))] [(.int (2 : Int32))])) _
                        exact retI X0 hx Bd.returns (hb hby d2_96) hr
                      · show Q2 Z p1 p2 p3 p4 p5 h0 n0 _ s₁.heap _
                        rw [e0]
                        have hv : (own_exp p1 p2 p3 p4 p5) = (2 : Int32) := by unfold own_exp; rw [if_pos hc22, if_neg hc32, if_pos hc38, if_neg hc48, if_pos hc54, if_neg hc64, if_pos hc70, if_neg hc80, if_neg hc86, if_pos hc92]
                        exact ⟨by rw [hv], N0, rfl⟩
                    · have c11 : ∀ t, Steps p.tables e below (s₁.setTop (mkF m 98 #[.val (.int p1), .val (.int p2), .val (.int p3), .val (.int p4), .val (.int p5), .val (.int p1), .val (.int (p1 + p2)), .val (.int ((p1 + p2) + p3)), .val (.int (((p1 + p2) + p3) + p4))] [(.int p2)])) t → Steps p.tables e below (s₁.setTop (entryFrame m #[(.int p1), (.int p2), (.int p3), (.int p4), (.int p5)] 9)) t := fun t kt => by
                        refine c10 _ ?_
                        show Steps p.tables e below (s₁.setTop (mkF m 92 #[.val (.int p1), .val (.int p2), .val (.int p3), .val (.int p4), .val (.int p5), .val (.int p1), .val (.int (p1 + p2)), .val (.int ((p1 + p2) + p3)), .val (.int (((p1 + p2) + p3) + p4))] [(.int p3)])) _
                        refine XS.ifYes X0.here hx rfl (pc0 := 92) (pc' := 97) rfl (hb hby d2_92) rfl ((if0 _ _).trans (flt hc92).2.2.2) (by decide) (by decide) ?_
                        show Steps p.tables e below (s₁.setTop (mkF m 97 #[.val (.int p1), .val (.int p2), .val (.int p3), .val (.int p4), .val (.int p5), .val (.int p1), .val (.int (p1 + p2)), .val (.int ((p1 + p2) + p3)), .val (.int (((p1 + p2) + p3) + p4))] [])) _
                        refine XS.iloadN X0.here hx rfl (hb hby d2_97) rfl ?_
                        exact kt
                      by_cases hc98 : (0 : Int32) < p2
                      · obtain ⟨fs, hr, hrun, hended, hW, hsame⟩ := X0.leave (v := some (.int (1 : Int32))) (fun h => by rw [Bd.returns] at h; cases h)
                        refine ⟨_, _, c11 _ ?_, hrun, hended, _, _, rfl, ?_, ⟨_, rfl⟩, hW, hsame.mono (by decide) (by decide)⟩
                        · show Steps p.tables e below (s₁.setTop (mkF m 98 #[.val (.int p1), .val (.int p2), .val (.int p3), .val (.int p4), .val (.int p5), .val (.int p1), .val (.int (p1 + p2)), .val (.int ((p1 + p2) + p3)), .val (.int (((p1 + p2) + p3) + p4))] [(.int p2)])) _
                          refine XS.ifNo X0.here hx rfl (hb hby d2_98) rfl ((if0 _ _).trans (tlt hc98).2.2.2) ?_
                          show Steps p.tables e below (s₁.setTop (mkF m 101 #[.val (.int p1), .val (.int p2), .val (.int p3), .val (.int p4), .val (.int p5), .val (.int p1), .val (.int (p1 + p2)), .val (.int ((p1 + p2) + p3)), .val (.int (((p1 + p2) + p3) + p4))] [])) _
                          refine XS.iconst X0.here hx rfl (hb hby d2_101) ?_
                          show Steps p.tables e below (s₁.setTop (mkF m 102 #[.val (.int p1), .val (.int p2), .val (.int p3), .val (.int p4), .val (.int p5), .val (.int p1), .val (.int (p1 + p2)), .val (.int ((p1 + p2) + p3)), .val (.int (((p1 + p2) + p3) + p4))] [(.int (1 : Int32))])) _
                          exact retI X0 hx Bd.returns (hb hby d2_102) hr
                        · show Q2 Z p1 p2 p3 p4 p5 h0 n0 _ s₁.heap _
                          rw [e0]
                          have hv : (own_exp p1 p2 p3 p4 p5) = (1 : Int32) := by unfold own_exp; rw [if_pos hc22, if_neg hc32, if_pos hc38, if_neg hc48, if_pos hc54, if_neg hc64, if_pos hc70, if_neg hc80, if_neg hc86, if_neg hc92, if_pos hc98]
                          exact ⟨by rw [hv], N0, rfl⟩
                      · obtain ⟨fs, hr, hrun, hended, hW, hsame⟩ := X0.leave (v := some (.int (0 : Int32))) (fun h => by rw [Bd.returns] at h; cases h)
                        refine ⟨_, _, c11 _ ?_, hrun, hended, _, _, rfl, ?_, ⟨_, rfl⟩, hW, hsame.mono (by decide) (by decide)⟩
                        · show Steps p.tables e below (s₁.setTop (mkF m 98 #[.val (.int p1), .val (.int p2), .val (.int p3), .val (.int p4), .val (.int p5), .val (.int p1), .val (.int (p1 + p2)), .val (.int ((p1 + p2) + p3)), .val (.int (((p1 + p2) + p3) + p4))] [(.int p2)])) _
                          refine XS.ifYes X0.here hx rfl (pc0 := 98) (pc' := 103) rfl (hb hby d2_98) rfl ((if0 _ _).trans (flt hc98).2.2.2) (by decide) (by decide) ?_
                          show Steps p.tables e below (s₁.setTop (mkF m 103 #[.val (.int p1), .val (.int p2), .val (.int p3), .val (.int p4), .val (.int p5), .val (.int p1), .val (.int (p1 + p2)), .val (.int ((p1 + p2) + p3)), .val (.int (((p1 + p2) + p3) + p4))] [])) _
                          refine XS.iconst X0.here hx rfl (hb hby d2_103) ?_
                          show Steps p.tables e below (s₁.setTop (mkF m 104 #[.val (.int p1), .val (.int p2), .val (.int p3), .val (.int p4), .val (.int p5), .val (.int p1), .val (.int (p1 + p2)), .val (.int ((p1 + p2) + p3)), .val (.int (((p1 + p2) + p3) + p4))] [(.int (0 : Int32))])) _
                          exact retI X0 hx Bd.returns (hb hby d2_104) hr
                        · show Q2 Z p1 p2 p3 p4 p5 h0 n0 _ s₁.heap _
                          rw [e0]
                          have hv : (own_exp p1 p2 p3 p4 p5) = (0 : Int32) := by unfold own_exp; rw [if_pos hc22, if_neg hc32, if_pos hc38, if_neg hc48, if_pos hc54, if_neg hc64, if_pos hc70, if_neg hc80, if_neg hc86, if_neg hc92, if_neg hc98]
                          exact ⟨by rw [hv], N0, rfl⟩
              · have c12 : ∀ t, Steps p.tables e below (s₁.setTop (mkF m 86 #[.val (.int p1), .val (.int p2), .val (.int p3), .val (.int p4), .val (.int p5), .val (.int p1), .val (.int (p1 + p2)), .val (.int ((p1 + p2) + p3)), .val (.int (((p1 + p2) + p3) + p4))] [(.int p4)])) t → Steps p.tables e below (s₁.setTop (entryFrame m #[(.int p1), (.int p2), (.int p3), (.int p4), (.int p5)] 9)) t := fun t kt => by
                  refine c7 _ ?_
                  show Steps p.tables e below (s₁.setTop (mkF m 70 #[.val (.int p1), .val (.int p2), .val (.int p3), .val (.int p4), .val (.int p5), .val (.int p1), .val (.int (p1 + p2)), .val (.int ((p1 + p2) + p3)), .val (.int (((p1 + p2) + p3) + p4))] [(.int p4)])) _
                  refine XS.ifYes X0.here hx rfl (pc0 := 70) (pc' := 85) rfl (hb hby d2_70) rfl ((if0 _ _).trans (flt hc70).2.2.2) (by decide) (by decide) ?_
                  show Steps p.tables e below (s₁.setTop (mkF m 85 #[.val (.int p1), .val (.int p2), .val (.int p3), .val (.int p4), .val (.int p5), .val (.int p1), .val (.int (p1 + p2)), .val (.int ((p1 + p2) + p3)), .val (.int (((p1 + p2) + p3) + p4))] [])) _
                  refine XS.iloadN X0.here hx rfl (hb hby d2_85) rfl ?_
                  exact kt
                by_cases hc86 : (0 : Int32) < p4
                · obtain ⟨fs, hr, hrun, hended, hW, hsame⟩ := X0.leave (v := some (.int (3 : Int32))) (fun h => by rw [Bd.returns] at h; cases h)
                  refine ⟨_, _, c12 _ ?_, hrun, hended, _, _, rfl, ?_, ⟨_, rfl⟩, hW, hsame.mono (by decide) (by decide)⟩
                  · show Steps p.tables e below (s₁.setTop (mkF m 86 #[.val (.int p1), .val (.int p2), .val (.int p3), .val (.int p4), .val (.int p5), .val (.int p1), .val (.int (p1 + p2)), .val (.int ((p1 + p2) + p3)), .val (.int (((p1 + p2) + p3) + p4))] [(.int p4)])) _
                    refine XS.ifNo X0.here hx rfl (hb hby d2_86) rfl ((if0 _ _).trans (tlt hc86).2.2.2) ?_
                    show Steps p.tables e below (s₁.setTop (mkF m 89 #[.val (.int p1), .val (.int p2), .val (.int p3), .val (.int p4), .val (.int p5), .val (.int p1), .val (.int (p1 + p2)), .val (.int ((p1 + p2) + p3)), .val (.int (((p1 + p2) + p3) + p4))] [])) _
                    refine XS.iconst X0.here hx rfl (hb hby d2_89) ?_
                    show Steps p.tables e below (s₁.setTop (mkF m 90 #[.val (.int p1), .val (.int p2), .val (.int p3), .val (.int p4), .val (.int p5), .val (.int p1), .val (.int (p1 + p2)), .val (.int ((p1 + p2) + p3)), .val (.int (((p1 + p2) + p3) + p4))] [(.int (3 : Int32))])) _
                    exact retI X0 hx Bd.returns (hb hby d2_90) hr
                  · show Q2 Z p1 p2 p3 p4 p5 h0 n0 _ s₁.heap _
                    rw [e0]
                    have hv : (own_exp p1 p2 p3 p4 p5) = (3 : Int32) := by unfold own_exp; rw [if_pos hc22, if_neg hc32, if_pos hc38, if_neg hc48, if_pos hc54, if_neg hc64, if_neg hc70, if_pos hc86]
                    exact ⟨by rw [hv], N0, rfl⟩
                · have c13 : ∀ t, Steps p.tables e below (s₁.setTop (mkF m 92 #[.val (.int p1), .val (.int p2), .val (.int p3), .val (.int p4), .val (.int p5), .val (.int p1), .val (.int (p1 + p2)), .val (.int ((p1 + p2) + p3)), .val (.int (((p1 + p2) + p3) + p4))] [(.int p3)])) t → Steps p.tables e below (s₁.setTop (entryFrame m #[(.int p1), (.int p2), (.int p3), (.int p4), (.int p5)] 9)) t := fun t kt => by
                    refine c12 _ ?_
                    show Steps p.tables e below (s₁.setTop (mkF m 86 #[.val (.int p1), .val (.int p2), .val (.int p3), .val (.int p4), .val (.int p5), .val (.int p1), .val (.int (p1 + p2)), .val (.int ((p1 + p2) + p3)), .val (.int (((p1 + p2) + p3) + p4))] [(.int p4)])) _
                    refine XS.ifYes X0.here hx rfl (pc0 := 86) (pc' := 91) rfl (hb hby d2_86) rfl ((if0 _ _).trans (flt hc86).2.2.2) (by decide) (by decide) ?_
                    show Steps p.tables e below (s₁.setTop (mkF m 91 #[.val (.int p1), .val (.int p2), .val (.int p3), .val (.int p4), .val (.int p5), .val (.int p1), .val (.int (p1 + p2)), .val (.int ((p1 + p2) + p3)), .val (.int (((p1 + p2) + p3) + p4))] [])) _
                    refine XS.iloadN X0.here hx rfl (hb hby d2_91) rfl ?_
                    exact kt
                  by_cases hc92 : (0 : Int32) < p3
                  · obtain ⟨fs, hr, hrun, hended, hW, hsame⟩ := X0.leave (v := some (.int (2 : Int32))) (fun h => by rw [Bd.returns] at h; cases h)
                    refine ⟨_, _, c13 _ ?_, hrun, hended, _, _, rfl, ?_, ⟨_, rfl⟩, hW, hsame.mono (by decide) (by decide)⟩
                    · show Steps p.tables e below (s₁.setTop (mkF m 92 #[.val (.int p1), .val (.int p2), .val (.int p3), .val (.int p4), .val (.int p5), .val (.int p1), .val (.int (p1 + p2)), .val (.int ((p1 + p2) + p3)), .val (.int (((p1 + p2) + p3) + p4))] [(.int p3)])) _
                      refine XS.ifNo X0.here hx rfl (hb hby d2_92) rfl ((if0 _ _).trans (tlt hc92).2.2.2) ?_
                      show Steps p.tables e below (s₁.setTop (mkF m 95 #[.val (.int p1), .val (.int p2), .val (.int p3), .val (.int p4), .val (.int p5), .val (.int p1), .val (.int (p1 + p2)), .val (.int ((p1 + p2) + p3)), .val (.int (((p1 + p2) + p3) + p4))] [])) _
                      refine XS.iconst X0.here hx rfl (hb hby d2_95) ?_
                      show Steps p.tables e below (s₁.setTop (mkF m 96 #[.val (.int p1), .val (.int p2), .val (.int p3), .val (.int p4), .val (.int p5), .val (.int p1), .val (.int (p1 + p2)), .val (.int ((p1 + p2) + p3)), .val (.int (((p1 + p2) + p3) + p4))] [(.int (2 : Int32))])) _
                      exact retI X0 hx Bd.returns (hb hby d2_96) hr
                    · show Q2 Z p1 p2 p3 p4 p5 h0 n0 _ s₁.heap _
                      rw [e0]
                      have hv : (own_exp p1 p2 p3 p4 p5) = (2 : Int32) := by unfold own_exp; rw [if_pos hc22, if_neg hc32, if_pos hc38, if_neg hc48, if_pos hc54, if_neg hc64, if_neg hc70, if_neg hc86, if_pos hc92]
                      exact ⟨by rw [hv], N0, rfl⟩
                  · have c14 : ∀ t, Steps p.tables e below (s₁.setTop (mkF m 98 #[.val (.int p1), .val (.int p2), .val (.int p3), .val (.int p4), .val (.int p5), .val (.int p1), .val (.int (p1 + p2)), .val (.int ((p1 + p2) + p3)), .val (.int (((p1 + p2) + p3) + p4))] [(.int p2)])) t → Steps p.tables e below (s₁.setTop (entryFrame m #[(.int p1), (.int p2), (.int p3), (.int p4), (.int p5)] 9)) t := fun t kt => by
                      refine c13 _ ?_
                      show Steps p.tables e below (s₁.setTop (mkF m 92 #[.val (.int p1), .val (.int p2), .val (.int p3), .val (.int p4), .val (.int p5), .val (.int p1), .val (.int (p1 + p2)), .val (.int ((p1 + p2) + p3)), .val (.int (((p1 + p2) + p3) + p4))] [(.int p3)])) _
                      refine XS.ifYes X0.here hx rfl (pc0 := 92) (pc' := 97) rfl (hb hby d2_92) rfl ((if0 _ _).trans (flt hc92).2.2.2) (by decide) (by decide) ?_
                      show Steps p.tables e below (s₁.setTop (mkF m 97 #[.val (.int p1), .val (.int p2), .val (.int p3), .val (.int p4), .val (.int p5), .val (.int p1), .val (.int (p1 + p2)), .val (.int ((p1 + p2) + p3)), .val (.int (((p1 + p2) + p3) + p4))] [])) _
                      refine XS.iloadN X0.here hx rfl (hb hby d2_97) rfl ?_
                      exact kt
                    by_cases hc98 : (0 : Int32) < p2
                    · obtain ⟨fs, hr, hrun, hended, hW, hsame⟩ := X0.leave (v := some (.int (1 : Int32))) (fun h => by rw [Bd.returns] at h; cases h)
                      refine ⟨_, _, c14 _ ?_, hrun, hended, _, _, rfl, ?_, ⟨_, rfl⟩, hW, hsame.mono (by decide) (by decide)⟩
                      · show Steps p.tables e below (s₁.setTop (mkF m 98 #[.val (.int p1), .val (.int p2), .val (.int p3), .val (.int p4), .val (.int p5), .val (.int p1), .val (.int (p1 + p2)), .val (.int ((p1 + p2) + p3)), .val (.int (((p1 + p2) + p3) + p4))] [(.int p2)])) _
                        refine XS.ifNo X0.here hx rfl (hb hby d2_98) rfl ((if0 _ _).trans (tlt hc98).2.2.2) ?_
                        show Steps p.tables e below (s₁.setTop (mkF m 101 #[.val (.int p1), .val (.int p2), .val (.int p3), .val (.int p4), .val (.int p5), .val (.int p1), .val (.int (p1 + p2)), .val (.int ((p1 + p2) + p3)), .val (.int (((p1 + p2) + p3) + p4))] [])) _
                        refine XS.iconst X0.here hx rfl (hb hby d2_101) ?_
                        show Steps p.tables e below (s₁.setTop (mkF m 102 #[.val (.int p1), .val (.int p2), .val (.int p3), .val (.int p4), .val (.int p5), .val (.int p1), .val (.int (p1 + p2)), .val (.int ((p1 + p2) + p3)), .val (.int (((p1 + p2) + p3) + p4))] [(.int (1 : Int32))])) _
                        exact retI X0 hx Bd.returns (hb hby d2_102) hr
                      · show Q2 Z p1 p2 p3 p4 p5 h0 n0 _ s₁.heap _
                        rw [e0]
                        have hv : (own_exp p1 p2 p3 p4 p5) = (1 : Int32) := by unfold own_exp; rw [if_pos hc22, if_neg hc32, if_pos hc38, if_neg hc48, if_pos hc54, if_neg hc64, if_neg hc70, if_neg hc86, if_neg hc92, if_pos hc98]
                        exact ⟨by rw [hv], N0, rfl⟩
                    · obtain ⟨fs, hr, hrun, hended, hW, hsame⟩ := X0.leave (v := some (.int (0 : Int32))) (fun h => by rw [Bd.returns] at h; cases h)
                      refine ⟨_, _, c14 _ ?_, hrun, hended, _, _, rfl, ?_, ⟨_, rfl⟩, hW, hsame.mono (by decide) (by decide)⟩
                      · show Steps p.tables e below (s₁.setTop (mkF m 98 #[.val (.int p1), .val (.int p2), .val (.int p3), .val (.int p4), .val (.int p5), .val (.int p1), .val (.int (p1 + p2)), .val (.int ((p1 + p2) + p3)), .val (.int (((p1 + p2) + p3) + p4))] [(.int p2)])) _
                        refine XS.ifYes X0.here hx rfl (pc0 := 98) (pc' := 103) rfl (hb hby d2_98) rfl ((if0 _ _).trans (flt hc98).2.2.2) (by decide) (by decide) ?_
                        show Steps p.tables e below (s₁.setTop (mkF m 103 #[.val (.int p1), .val (.int p2), .val (.int p3), .val (.int p4), .val (.int p5), .val (.int p1), .val (.int (p1 + p2)), .val (.int ((p1 + p2) + p3)), .val (.int (((p1 + p2) + p3) + p4))] [])) _
                        refine XS.iconst X0.here hx rfl (hb hby d2_103) ?_
                        show Steps p.tables e below (s₁.setTop (mkF m 104 #[.val (.int p1), .val (.int p2), .val (.int p3), .val (.int p4), .val (.int p5), .val (.int p1), .val (.int (p1 + p2)), .val (.int ((p1 + p2) + p3)), .val (.int (((p1 + p2) + p3) + p4))] [(.int (0 : Int32))])) _
                        exact retI X0 hx Bd.returns (hb hby d2_104) hr
                      · show Q2 Z p1 p2 p3 p4 p5 h0 n0 _ s₁.heap _
                        rw [e0]
                        have hv : (own_exp p1 p2 p3 p4 p5) = (0 : Int32) := by unfold own_exp; rw [if_pos hc22, if_neg hc32, if_pos hc38, if_neg hc48, if_pos hc54, if_neg hc64, if_neg hc70, if_neg hc86, if_neg hc92, if_neg hc98]
                        exact ⟨by rw [hv], N0, rfl⟩
          · have c15 : ∀ t, Steps p.tables e below (s₁.setTop (mkF m 70 #[.val (.int p1), .val (.int p2), .val (.int p3), .val (.int p4), .val (.int p5), .val (.int p1), .val (.int (p1 + p2)), .val (.int ((p1 + p2) + p3)), .val (.int (((p1 + p2) + p3) + p4))] [(.int p4)])) t → Steps p.tables e below (s₁.setTop (entryFrame m #[(.int p1), (.int p2), (.int p3), (.int p4), (.int p5)] 9)) t := fun t kt => by
              refine c5 _ ?_
              show Steps p.tables e below (s₁.setTop (mkF m 54 #[.val (.int p1), .val (.int p2), .val (.int p3), .val (.int p4), .val (.int p5), .val (.int p1), .val (.int (p1 + p2)), .val (.int ((p1 + p2) + p3)), .val (.int (((p1 + p2) + p3) + p4))] [(.int p3)])) _
              refine XS.ifYes X0.here hx rfl (pc0 := 54) (pc' := 69) rfl (hb hby d2_54) rfl ((if0 _ _).trans (flt hc54).2.2.2) (by decide) (by decide) ?_
              show Steps p.tables e below (s₁.setTop (mkF m 69 #[.val (.int p1), .val (.int p2), .val (.int p3), .val (.int p4), .val (.int p5), .val (.int p1), .val (.int (p1 + p2)), .val (.int ((p1 + p2) + p3)), .val (.int (((p1 + p2) + p3) + p4))] [])) _
              refine XS.iloadN X0.here hx rfl (hb hby d2_69) rfl ?_
              exact kt
            by_cases hc70 : (0 : Int32) < p4
            · have c16 : ∀ t, Steps p.tables e below (s₁.setTop (mkF m 80 #[.val (.int p1), .val (.int p2), .val (.int p3), .val (.int p4), .val (.int p5), .val (.int p1), .val (.int (p1 + p2)), .val (.int ((p1 + p2) + p3)), .val (.int (((p1 + p2) + p3) + p4))] [(.int ((16 : Int32) * (((p1 + p2) + p3) + p4))), (.int p5)])) t → Steps p.tables e below (s₁.setTop (entryFrame m #[(.int p1), (.int p2), (.int p3), (.int p4), (.int p5)] 9)) t := fun t kt => by
                refine c15 _ ?_
                show Steps p.tables e below (s₁.setTop (mkF m 70 #[.val (.int p1), .val (.int p2), .val (.int p3), .val (.int p4), .val (.int p5), .val (.int p1), .val (.int (p1 + p2)), .val (.int ((p1 + p2) + p3)), .val (.int (((p1 + p2) + p3) + p4))] [(.int p4)])) _
                refine XS.ifNo X0.here hx rfl (hb hby d2_70) rfl ((if0 _ _).trans (tlt hc70).2.2.2) ?_
                show Steps p.tables e below (s₁.setTop (mkF m 73 #[.val (.int p1), .val (.int p2), .val (.int p3), .val (.int p4), .val (.int p5), .val (.int p1), .val (.int (p1 + p2)), .val (.int ((p1 + p2) + p3)), .val (.int (((p1 + p2) + p3) + p4))] [])) _
                refine XS.iload X0.here hx rfl (hb hby d2_73) rfl ?_
                show Steps p.tables e below (s₁.setTop (mkF m 75 #[.val (.int p1), .val (.int p2), .val (.int p3), .val (.int p4), .val (.int p5), .val (.int p1), .val (.int (p1 + p2)), .val (.int ((p1 + p2) + p3)), .val (.int (((p1 + p2) + p3) + p4))] [(.int p5)])) _
                refine XS.bipush X0.here hx rfl (hb hby d2_75) ?_
                show Steps p.tables e below (s₁.setTop (mkF m 77 #[.val (.int p1), .val (.int p2), .val (.int p3), .val (.int p4), .val (.int p5), .val (.int p1), .val (.int (p1 + p2)), .val (.int ((p1 + p2) + p3)), .val (.int (((p1 + p2) + p3) + p4))] [(.int (16 : Int32)), (.int p5)])) _
                refine XS.iload X0.here hx rfl (hb hby d2_77) rfl ?_
                show Steps p.tables e below (s₁.setTop (mkF m 79 #[.val (.int p1), .val (.int p2), .val (.int p3), .val (.int p4), .val (.int p5), .val (.int p1), .val (.int (p1 + p2)), .val (.int ((p1 + p2) + p3)), .val (.int (((p1 + p2) + p3) + p4))] [(.int (((p1 + p2) + p3) + p4)), (.int (16 : Int32)), (.int p5)])) _
                refine XS.imul X0.here hx rfl (hb hby d2_79) rfl ?_
                exact kt
              by_cases hc80 : p5 < ((16 : Int32) * (((p1 + p2) + p3) + p4))
              · obtain ⟨fs, hr, hrun, hended, hW, hsame⟩ := X0.leave (v := some (.int (3 : Int32))) (fun h => by rw [Bd.returns] at h; cases h)
                refine ⟨_, _, c16 _ ?_, hrun, hended, _, _, rfl, ?_, ⟨_, rfl⟩, hW, hsame.mono (by decide) (by decide)⟩
                · show Steps p.tables e below (s₁.setTop (mkF m 80 #[.val (.int p1), .val (.int p2), .val (.int p3), .val (.int p4), .val (.int p5), .val (.int p1), .val (.int (p1 + p2)), .val (.int ((p1 + p2) + p3)), .val (.int (((p1 + p2) + p3) + p4))] [(.int ((16 : Int32) * (((p1 + p2) + p3) + p4))), (.int p5)])) _
                  refine XS.icmpNo X0.here hx rfl (hb hby d2_80) rfl (tlt hc80).2.1 ?_
                  show Steps p.tables e below (s₁.setTop (mkF m 83 #[.val (.int p1), .val (.int p2), .val (.int p3), .val (.int p4), .val (.int p5), .val (.int p1), .val (.int (p1 + p2)), .val (.int ((p1 + p2) + p3)), .val (.int (((p1 + p2) + p3) + p4))] [])) _
                  refine XS.iconst X0.here hx rfl (hb hby d2_83) ?_
                  show Steps p.tables e below (s₁.setTop (mkF m 84 #[.val (.int p1), .val (.int p2), .val (.int p3), .val (.int p4), .val (.int p5), .val (.int p1), .val (.int (p1 + p2)), .val (.int ((p1 + p2) + p3)), .val (.int (((p1 + p2) + p3) + p4))] [(.int (3 : Int32))])) _
                  exact retI X0 hx Bd.returns (hb hby d2_84) hr
                · show Q2 Z p1 p2 p3 p4 p5 h0 n0 _ s₁.heap _
                  rw [e0]
                  have hv : (own_exp p1 p2 p3 p4 p5) = (3 : Int32) := by unfold own_exp; rw [if_pos hc22, if_neg hc32, if_pos hc38, if_neg hc48, if_neg hc54, if_pos hc70, if_pos hc80]
                  exact ⟨by rw [hv], N0, rfl⟩
              · have c17 : ∀ t, Steps p.tables e below (s₁.setTop (mkF m 86 #[.val (.int p1), .val (.int p2), .val (.int p3), .val (.int p4), .val (.int p5), .val (.int p1), .val (.int (p1 + p2)), .val (.int ((p1 + p2) + p3)), .val (.int (((p1 + p2) + p3) + p4))] [(.int p4)])) t → Steps p.tables e below (s₁.setTop (entryFrame m #[(.int p1), (.int p2), (.int p3), (.int p4), (.int p5)] 9)) t := fun t kt => by
                  refine c16 _ ?_
                  show Steps p.tables e below (s₁.setTop (mkF m 80 #[.val (.int p1), .val (.int p2), .val (.int p3), .val (.int p4), .val (.int p5), .val (.int p1), .val (.int (p1 + p2)), .val (.int ((p1 + p2) + p3)), .val (.int (((p1 + p2) + p3) + p4))] [(.int ((16 : Int32) * (((p1 + p2) + p3) + p4))), (.int p5)])) _
                  refine XS.icmpYes X0.here hx rfl (pc0 := 80) (pc' := 85) rfl (hb hby d2_80) rfl (flt hc80).2.1 (by decide) (by decide) ?_
                  show Steps p.tables e below (s₁.setTop (mkF m 85 #[.val (.int p1), .val (.int p2), .val (.int p3), .val (.int p4), .val (.int p5), .val (.int p1), .val (.int (p1 + p2)), .val (.int ((p1 + p2) + p3)), .val (.int (((p1 + p2) + p3) + p4))] [])) _
                  refine XS.iloadN X0.here hx rfl (hb hby d2_85) rfl ?_
                  exact kt
                by_cases hc86 : (0 : Int32) < p4
                · obtain ⟨fs, hr, hrun, hended, hW, hsame⟩ := X0.leave (v := some (.int (3 : Int32))) (fun h => by rw [Bd.returns] at h; cases h)
                  refine ⟨_, _, c17 _ ?_, hrun, hended, _, _, rfl, ?_, ⟨_, rfl⟩, hW, hsame.mono (by decide) (by decide)⟩
                  · show Steps p.tables e below (s₁.setTop (mkF m 86 #[.val (.int p1), .val (.int p2), .val (.int p3), .val (.int p4), .val (.int p5), .val (.int p1), .val (.int (p1 + p2)), .val (.int ((p1 + p2) + p3)), .val (.int (((p1 + p2) + p3) + p4))] [(.int p4)])) _
                    refine XS.ifNo X0.here hx rfl (hb hby d2_86) rfl ((if0 _ _).trans (tlt hc86).2.2.2) ?_
                    show Steps p.tables e below (s₁.setTop (mkF m 89 #[.val (.int p1), .val (.int p2), .val (.int p3), .val (.int p4), .val (.int p5), .val (.int p1), .val (.int (p1 + p2)), .val (.int ((p1 + p2) + p3)), .val (.int (((p1 + p2) + p3) + p4))] [])) _
                    refine XS.iconst X0.here hx rfl (hb hby d2_89) ?_
                    show Steps p.tables e below (s₁.setTop (mkF m 90 #[.val (.int p1), .val (.int p2), .val (.int p3), .val (.int p4), .val (.int p5), .val (.int p1), .val (.int (p1 + p2)), .val (.int ((p1 + p2) + p3)), .val (.int (((p1 + p2) + p3) + p4))] [(.int (3 : Int32))])) _
                    exact retI X0 hx Bd.returns (hb hby d2_90) hr
                  · show Q2 Z p1 p2 p3 p4 p5 h0 n0 _ s₁.heap _
                    rw [e0]
                    have hv : (own_exp p1 p2 p3 p4 p5) = (3 : Int32) := by unfold own_exp; rw [if_pos hc22, if_neg hc32, if_pos hc38, if_neg hc48, if_neg hc54, if_pos hc70, if_neg hc80, if_pos hc86]
                    exact ⟨by rw [hv], N0, rfl⟩
                · have c18 : ∀ t, Steps p.tables e below (s₁.setTop (mkF m 92 #[.val (.int p1), .val (.int p2), .val (.int p3), .val (.int p4), .val (.int p5), .val (.int p1), .val (.int (p1 + p2)), .val (.int ((p1 + p2) + p3)), .val (.int (((p1 + p2) + p3) + p4))] [(.int p3)])) t → Steps p.tables e below (s₁.setTop (entryFrame m #[(.int p1), (.int p2), (.int p3), (.int p4), (.int p5)] 9)) t := fun t kt => by
                    refine c17 _ ?_
                    show Steps p.tables e below (s₁.setTop (mkF m 86 #[.val (.int p1), .val (.int p2), .val (.int p3), .val (.int p4), .val (.int p5), .val (.int p1), .val (.int (p1 + p2)), .val (.int ((p1 + p2) + p3)), .val (.int (((p1 + p2) + p3) + p4))] [(.int p4)])) _
                    refine XS.ifYes X0.here hx rfl (pc0 := 86) (pc' := 91) rfl (hb hby d2_86) rfl ((if0 _ _).trans (flt hc86).2.2.2) (by decide) (by decide) ?_
                    show Steps p.tables e below (s₁.setTop (mkF m 91 #[.val (.int p1), .val (.int p2), .val (.int p3), .val (.int p4), .val (.int p5), .val (.int p1), .val (.int (p1 + p2)), .val (.int ((p1 + p2) + p3)), .val (.int (((p1 + p2) + p3) + p4))] [])) _
                    refine XS.iloadN X0.here hx rfl (hb hby d2_91) rfl ?_
                    exact kt
                  by_cases hc92 : (0 : Int32) < p3
                  · obtain ⟨fs, hr, hrun, hended, hW, hsame⟩ := X0.leave (v := some (.int (2 : Int32))) (fun h => by rw [Bd.returns] at h; cases h)
                    refine ⟨_, _, c18 _ ?_, hrun, hended, _, _, rfl, ?_, ⟨_, rfl⟩, hW, hsame.mono (by decide) (by decide)⟩
                    · show Steps p.tables e below (s₁.setTop (mkF m 92 #[.val (.int p1), .val (.int p2), .val (.int p3), .val (.int p4), .val (.int p5), .val (.int p1), .val (.int (p1 + p2)), .val (.int ((p1 + p2) + p3)), .val (.int (((p1 + p2) + p3) + p4))] [(.int p3)])) _
                      refine XS.ifNo X0.here hx rfl (hb hby d2_92) rfl ((if0 _ _).trans (tlt hc92).2.2.2) ?_
                      show Steps p.tables e below (s₁.setTop (mkF m 95 #[.val (.int p1), .val (.int p2), .val (.int p3), .val (.int p4), .val (.int p5), .val (.int p1), .val (.int (p1 + p2)), .val (.int ((p1 + p2) + p3)), .val (.int (((p1 + p2) + p3) + p4))] [])) _
                      refine XS.iconst X0.here hx rfl (hb hby d2_95) ?_
                      show Steps p.tables e below (s₁.setTop (mkF m 96 #[.val (.int p1), .val (.int p2), .val (.int p3), .val (.int p4), .val (.int p5), .val (.int p1), .val (.int (p1 + p2)), .val (.int ((p1 + p2) + p3)), .val (.int (((p1 + p2) + p3) + p4))] [(.int (2 : Int32))])) _
                      exact retI X0 hx Bd.returns (hb hby d2_96) hr
                    · show Q2 Z p1 p2 p3 p4 p5 h0 n0 _ s₁.heap _
                      rw [e0]
                      have hv : (own_exp p1 p2 p3 p4 p5) = (2 : Int32) := by unfold own_exp; rw [if_pos hc22, if_neg hc32, if_pos hc38, if_neg hc48, if_neg hc54, if_pos hc70, if_neg hc80, if_neg hc86, if_pos hc92]
                      exact ⟨by rw [hv], N0, rfl⟩
                  · have c19 : ∀ t, Steps p.tables e below (s₁.setTop (mkF m 98 #[.val (.int p1), .val (.int p2), .val (.int p3), .val (.int p4), .val (.int p5), .val (.int p1), .val (.int (p1 + p2)), .val (.int ((p1 + p2) + p3)), .val (.int (((p1 + p2) + p3) + p4))] [(.int p2)])) t → Steps p.tables e below (s₁.setTop (entryFrame m #[(.int p1), (.int p2), (.int p3), (.int p4), (.int p5)] 9)) t := fun t kt => by
                      refine c18 _ ?_
                      show Steps p.tables e below (s₁.setTop (mkF m 92 #[.val (.int p1), .val (.int p2), .val (.int p3), .val (.int p4), .val (.int p5), .val (.int p1), .val (.int (p1 + p2)), .val (.int ((p1 + p2) + p3)), .val (.int (((p1 + p2) + p3) + p4))] [(.int p3)])) _
                      refine XS.ifYes X0.here hx rfl (pc0 := 92) (pc' := 97) rfl (hb hby d2_92) rfl ((if0 _ _).trans (flt hc92).2.2.2) (by decide) (by decide) ?_
                      show Steps p.tables e below (s₁.setTop (mkF m 97 #[.val (.int p1), .val (.int p2), .val (.int p3), .val (.int p4), .val (.int p5), .val (.int p1), .val (.int (p1 + p2)), .val (.int ((p1 + p2) + p3)), .val (.int (((p1 + p2) + p3) + p4))] [])) _
                      refine XS.iloadN X0.here hx rfl (hb hby d2_97) rfl ?_
                      exact kt
                    by_cases hc98 : (0 : Int32) < p2
                    · obtain ⟨fs, hr, hrun, hended, hW, hsame⟩ := X0.leave (v := some (.int (1 : Int32))) (fun h => by rw [Bd.returns] at h; cases h)
                      refine ⟨_, _, c19 _ ?_, hrun, hended, _, _, rfl, ?_, ⟨_, rfl⟩, hW, hsame.mono (by decide) (by decide)⟩
                      · show Steps p.tables e below (s₁.setTop (mkF m 98 #[.val (.int p1), .val (.int p2), .val (.int p3), .val (.int p4), .val (.int p5), .val (.int p1), .val (.int (p1 + p2)), .val (.int ((p1 + p2) + p3)), .val (.int (((p1 + p2) + p3) + p4))] [(.int p2)])) _
                        refine XS.ifNo X0.here hx rfl (hb hby d2_98) rfl ((if0 _ _).trans (tlt hc98).2.2.2) ?_
                        show Steps p.tables e below (s₁.setTop (mkF m 101 #[.val (.int p1), .val (.int p2), .val (.int p3), .val (.int p4), .val (.int p5), .val (.int p1), .val (.int (p1 + p2)), .val (.int ((p1 + p2) + p3)), .val (.int (((p1 + p2) + p3) + p4))] [])) _
                        refine XS.iconst X0.here hx rfl (hb hby d2_101) ?_
                        show Steps p.tables e below (s₁.setTop (mkF m 102 #[.val (.int p1), .val (.int p2), .val (.int p3), .val (.int p4), .val (.int p5), .val (.int p1), .val (.int (p1 + p2)), .val (.int ((p1 + p2) + p3)), .val (.int (((p1 + p2) + p3) + p4))] [(.int (1 : Int32))])) _
                        exact retI X0 hx Bd.returns (hb hby d2_102) hr
                      · show Q2 Z p1 p2 p3 p4 p5 h0 n0 _ s₁.heap _
                        rw [e0]
                        have hv : (own_exp p1 p2 p3 p4 p5) = (1 : Int32) := by unfold own_exp; rw [if_pos hc22, if_neg hc32, if_pos hc38, if_neg hc48, if_neg hc54, if_pos hc70, if_neg hc80, if_neg hc86, if_neg hc92, if_pos hc98]
                        exact ⟨by rw [hv], N0, rfl⟩
                    · obtain ⟨fs, hr, hrun, hended, hW, hsame⟩ := X0.leave (v := some (.int (0 : Int32))) (fun h => by rw [Bd.returns] at h; cases h)
                      refine ⟨_, _, c19 _ ?_, hrun, hended, _, _, rfl, ?_, ⟨_, rfl⟩, hW, hsame.mono (by decide) (by decide)⟩
                      · show Steps p.tables e below (s₁.setTop (mkF m 98 #[.val (.int p1), .val (.int p2), .val (.int p3), .val (.int p4), .val (.int p5), .val (.int p1), .val (.int (p1 + p2)), .val (.int ((p1 + p2) + p3)), .val (.int (((p1 + p2) + p3) + p4))] [(.int p2)])) _
                        refine XS.ifYes X0.here hx rfl (pc0 := 98) (pc' := 103) rfl (hb hby d2_98) rfl ((if0 _ _).trans (flt hc98).2.2.2) (by decide) (by decide) ?_
                        show Steps p.tables e below (s₁.setTop (mkF m 103 #[.val (.int p1), .val (.int p2), .val (.int p3), .val (.int p4), .val (.int p5), .val (.int p1), .val (.int (p1 + p2)), .val (.int ((p1 + p2) + p3)), .val (.int (((p1 + p2) + p3) + p4))] [])) _
                        refine XS.iconst X0.here hx rfl (hb hby d2_103) ?_
                        show Steps p.tables e below (s₁.setTop (mkF m 104 #[.val (.int p1), .val (.int p2), .val (.int p3), .val (.int p4), .val (.int p5), .val (.int p1), .val (.int (p1 + p2)), .val (.int ((p1 + p2) + p3)), .val (.int (((p1 + p2) + p3) + p4))] [(.int (0 : Int32))])) _
                        exact retI X0 hx Bd.returns (hb hby d2_104) hr
                      · show Q2 Z p1 p2 p3 p4 p5 h0 n0 _ s₁.heap _
                        rw [e0]
                        have hv : (own_exp p1 p2 p3 p4 p5) = (0 : Int32) := by unfold own_exp; rw [if_pos hc22, if_neg hc32, if_pos hc38, if_neg hc48, if_neg hc54, if_pos hc70, if_neg hc80, if_neg hc86, if_neg hc92, if_neg hc98]
                        exact ⟨by rw [hv], N0, rfl⟩
            · have c20 : ∀ t, Steps p.tables e below (s₁.setTop (mkF m 86 #[.val (.int p1), .val (.int p2), .val (.int p3), .val (.int p4), .val (.int p5), .val (.int p1), .val (.int (p1 + p2)), .val (.int ((p1 + p2) + p3)), .val (.int (((p1 + p2) + p3) + p4))] [(.int p4)])) t → Steps p.tables e below (s₁.setTop (entryFrame m #[(.int p1), (.int p2), (.int p3), (.int p4), (.int p5)] 9)) t := fun t kt => by
                refine c15 _ ?_
                show Steps p.tables e below (s₁.setTop (mkF m 70 #[.val (.int p1), .val (.int p2), .val (.int p3), .val (.int p4), .val (.int p5), .val (.int p1), .val (.int (p1 + p2)), .val (.int ((p1 + p2) + p3)), .val (.int (((p1 + p2) + p3) + p4))] [(.int p4)])) _
                refine XS.ifYes X0.here hx rfl (pc0 := 70) (pc' := 85) rfl (hb hby d2_70) rfl ((if0 _ _).trans (flt hc70).2.2.2) (by decide) (by decide) ?_
                show Steps p.tables e below (s₁.setTop (mkF m 85 #[.val (.int p1), .val (.int p2), .val (.int p3), .val (.int p4), .val (.int p5), .val (.int p1), .val (.int (p1 + p2)), .val (.int ((p1 + p2) + p3)), .val (.int (((p1 + p2) + p3) + p4))] [])) _
                refine XS.iloadN X0.here hx rfl (hb hby d2_85) rfl ?_
                exact kt
              by_cases hc86 : (0 : Int32) < p4
              · obtain ⟨fs, hr, hrun, hended, hW, hsame⟩ := X0.leave (v := some (.int (3 : Int32))) (fun h => by rw [Bd.returns] at h; cases h)
                refine ⟨_, _, c20 _ ?_, hrun, hended, _, _, rfl, ?_, ⟨_, rfl⟩, hW, hsame.mono (by decide) (by decide)⟩
                · show Steps p.tables e below (s₁.setTop (mkF m 86 #[.val (.int p1), .val (.int p2), .val (.int p3), .val (.int p4), .val (.int p5), .val (.int p1), .val (.int (p1 + p2)), .val (.int ((p1 + p2) + p3)), .val (.int (((p1 + p2) + p3) + p4))] [(.int p4)])) _
                  refine XS.ifNo X0.here hx rfl (hb hby d2_86) rfl ((if0 _ _).trans (tlt hc86).2.2.2) ?_
                  show Steps p.tables e below (s₁.setTop (mkF m 89 #[.val (.int p1), .val (.int p2), .val (.int p3), .val (.int p4), .val (.int p5), .val (.int p1), .val (.int (p1 + p2)), .val (.int ((p1 + p2) + p3)), .val (.int (((p1 + p2) + p3) + p4))] [])) _
                  refine XS.iconst X0.here hx rfl (hb hby d2_89) ?_
                  show Steps p.tables e below (s₁.setTop (mkF m 90 #[.val (.int p1), .val (.int p2), .val (.int p3), .val (.int p4), .val (.int p5), .val (.int p1), .val (.int (p1 + p2)), .val (.int ((p1 + p2) + p3)), .val (.int (((p1 + p2) + p3) + p4))] [(.int (3 : Int32))])) _
                  exact retI X0 hx Bd.returns (hb hby d2_90) hr
                · show Q2 Z p1 p2 p3 p4 p5 h0 n0 _ s₁.heap _
                  rw [e0]
                  have hv : (own_exp p1 p2 p3 p4 p5) = (3 : Int32) := by unfold own_exp; rw [if_pos hc22, if_neg hc32, if_pos hc38, if_neg hc48, if_neg hc54, if_neg hc70, if_pos hc86]
                  exact ⟨by rw [hv], N0, rfl⟩
              · have c21 : ∀ t, Steps p.tables e below (s₁.setTop (mkF m 92 #[.val (.int p1), .val (.int p2), .val (.int p3), .val (.int p4), .val (.int p5), .val (.int p1), .val (.int (p1 + p2)), .val (.int ((p1 + p2) + p3)), .val (.int (((p1 + p2) + p3) + p4))] [(.int p3)])) t → Steps p.tables e below (s₁.setTop (entryFrame m #[(.int p1), (.int p2), (.int p3), (.int p4), (.int p5)] 9)) t := fun t kt => by
                  refine c20 _ ?_
                  show Steps p.tables e below (s₁.setTop (mkF m 86 #[.val (.int p1), .val (.int p2), .val (.int p3), .val (.int p4), .val (.int p5), .val (.int p1), .val (.int (p1 + p2)), .val (.int ((p1 + p2) + p3)), .val (.int (((p1 + p2) + p3) + p4))] [(.int p4)])) _
                  refine XS.ifYes X0.here hx rfl (pc0 := 86) (pc' := 91) rfl (hb hby d2_86) rfl ((if0 _ _).trans (flt hc86).2.2.2) (by decide) (by decide) ?_
                  show Steps p.tables e below (s₁.setTop (mkF m 91 #[.val (.int p1), .val (.int p2), .val (.int p3), .val (.int p4), .val (.int p5), .val (.int p1), .val (.int (p1 + p2)), .val (.int ((p1 + p2) + p3)), .val (.int (((p1 + p2) + p3) + p4))] [])) _
                  refine XS.iloadN X0.here hx rfl (hb hby d2_91) rfl ?_
                  exact kt
                by_cases hc92 : (0 : Int32) < p3
                · obtain ⟨fs, hr, hrun, hended, hW, hsame⟩ := X0.leave (v := some (.int (2 : Int32))) (fun h => by rw [Bd.returns] at h; cases h)
                  refine ⟨_, _, c21 _ ?_, hrun, hended, _, _, rfl, ?_, ⟨_, rfl⟩, hW, hsame.mono (by decide) (by decide)⟩
                  · show Steps p.tables e below (s₁.setTop (mkF m 92 #[.val (.int p1), .val (.int p2), .val (.int p3), .val (.int p4), .val (.int p5), .val (.int p1), .val (.int (p1 + p2)), .val (.int ((p1 + p2) + p3)), .val (.int (((p1 + p2) + p3) + p4))] [(.int p3)])) _
                    refine XS.ifNo X0.here hx rfl (hb hby d2_92) rfl ((if0 _ _).trans (tlt hc92).2.2.2) ?_
                    show Steps p.tables e below (s₁.setTop (mkF m 95 #[.val (.int p1), .val (.int p2), .val (.int p3), .val (.int p4), .val (.int p5), .val (.int p1), .val (.int (p1 + p2)), .val (.int ((p1 + p2) + p3)), .val (.int (((p1 + p2) + p3) + p4))] [])) _
                    refine XS.iconst X0.here hx rfl (hb hby d2_95) ?_
                    show Steps p.tables e below (s₁.setTop (mkF m 96 #[.val (.int p1), .val (.int p2), .val (.int p3), .val (.int p4), .val (.int p5), .val (.int p1), .val (.int (p1 + p2)), .val (.int ((p1 + p2) + p3)), .val (.int (((p1 + p2) + p3) + p4))] [(.int (2 : Int32))])) _
                    exact retI X0 hx Bd.returns (hb hby d2_96) hr
                  · show Q2 Z p1 p2 p3 p4 p5 h0 n0 _ s₁.heap _
                    rw [e0]
                    have hv : (own_exp p1 p2 p3 p4 p5) = (2 : Int32) := by unfold own_exp; rw [if_pos hc22, if_neg hc32, if_pos hc38, if_neg hc48, if_neg hc54, if_neg hc70, if_neg hc86, if_pos hc92]
                    exact ⟨by rw [hv], N0, rfl⟩
                · have c22 : ∀ t, Steps p.tables e below (s₁.setTop (mkF m 98 #[.val (.int p1), .val (.int p2), .val (.int p3), .val (.int p4), .val (.int p5), .val (.int p1), .val (.int (p1 + p2)), .val (.int ((p1 + p2) + p3)), .val (.int (((p1 + p2) + p3) + p4))] [(.int p2)])) t → Steps p.tables e below (s₁.setTop (entryFrame m #[(.int p1), (.int p2), (.int p3), (.int p4), (.int p5)] 9)) t := fun t kt => by
                    refine c21 _ ?_
                    show Steps p.tables e below (s₁.setTop (mkF m 92 #[.val (.int p1), .val (.int p2), .val (.int p3), .val (.int p4), .val (.int p5), .val (.int p1), .val (.int (p1 + p2)), .val (.int ((p1 + p2) + p3)), .val (.int (((p1 + p2) + p3) + p4))] [(.int p3)])) _
                    refine XS.ifYes X0.here hx rfl (pc0 := 92) (pc' := 97) rfl (hb hby d2_92) rfl ((if0 _ _).trans (flt hc92).2.2.2) (by decide) (by decide) ?_
                    show Steps p.tables e below (s₁.setTop (mkF m 97 #[.val (.int p1), .val (.int p2), .val (.int p3), .val (.int p4), .val (.int p5), .val (.int p1), .val (.int (p1 + p2)), .val (.int ((p1 + p2) + p3)), .val (.int (((p1 + p2) + p3) + p4))] [])) _
                    refine XS.iloadN X0.here hx rfl (hb hby d2_97) rfl ?_
                    exact kt
                  by_cases hc98 : (0 : Int32) < p2
                  · obtain ⟨fs, hr, hrun, hended, hW, hsame⟩ := X0.leave (v := some (.int (1 : Int32))) (fun h => by rw [Bd.returns] at h; cases h)
                    refine ⟨_, _, c22 _ ?_, hrun, hended, _, _, rfl, ?_, ⟨_, rfl⟩, hW, hsame.mono (by decide) (by decide)⟩
                    · show Steps p.tables e below (s₁.setTop (mkF m 98 #[.val (.int p1), .val (.int p2), .val (.int p3), .val (.int p4), .val (.int p5), .val (.int p1), .val (.int (p1 + p2)), .val (.int ((p1 + p2) + p3)), .val (.int (((p1 + p2) + p3) + p4))] [(.int p2)])) _
                      refine XS.ifNo X0.here hx rfl (hb hby d2_98) rfl ((if0 _ _).trans (tlt hc98).2.2.2) ?_
                      show Steps p.tables e below (s₁.setTop (mkF m 101 #[.val (.int p1), .val (.int p2), .val (.int p3), .val (.int p4), .val (.int p5), .val (.int p1), .val (.int (p1 + p2)), .val (.int ((p1 + p2) + p3)), .val (.int (((p1 + p2) + p3) + p4))] [])) _
                      refine XS.iconst X0.here hx rfl (hb hby d2_101) ?_
                      show Steps p.tables e below (s₁.setTop (mkF m 102 #[.val (.int p1), .val (.int p2), .val (.int p3), .val (.int p4), .val (.int p5), .val (.int p1), .val (.int (p1 + p2)), .val (.int ((p1 + p2) + p3)), .val (.int (((p1 + p2) + p3) + p4))] [(.int (1 : Int32))])) _
                      exact retI X0 hx Bd.returns (hb hby d2_102) hr
                    · show Q2 Z p1 p2 p3 p4 p5 h0 n0 _ s₁.heap _
                      rw [e0]
                      have hv : (own_exp p1 p2 p3 p4 p5) = (1 : Int32) := by unfold own_exp; rw [if_pos hc22, if_neg hc32, if_pos hc38, if_neg hc48, if_neg hc54, if_neg hc70, if_neg hc86, if_neg hc92, if_pos hc98]
                      exact ⟨by rw [hv], N0, rfl⟩
                  · obtain ⟨fs, hr, hrun, hended, hW, hsame⟩ := X0.leave (v := some (.int (0 : Int32))) (fun h => by rw [Bd.returns] at h; cases h)
                    refine ⟨_, _, c22 _ ?_, hrun, hended, _, _, rfl, ?_, ⟨_, rfl⟩, hW, hsame.mono (by decide) (by decide)⟩
                    · show Steps p.tables e below (s₁.setTop (mkF m 98 #[.val (.int p1), .val (.int p2), .val (.int p3), .val (.int p4), .val (.int p5), .val (.int p1), .val (.int (p1 + p2)), .val (.int ((p1 + p2) + p3)), .val (.int (((p1 + p2) + p3) + p4))] [(.int p2)])) _
                      refine XS.ifYes X0.here hx rfl (pc0 := 98) (pc' := 103) rfl (hb hby d2_98) rfl ((if0 _ _).trans (flt hc98).2.2.2) (by decide) (by decide) ?_
                      show Steps p.tables e below (s₁.setTop (mkF m 103 #[.val (.int p1), .val (.int p2), .val (.int p3), .val (.int p4), .val (.int p5), .val (.int p1), .val (.int (p1 + p2)), .val (.int ((p1 + p2) + p3)), .val (.int (((p1 + p2) + p3) + p4))] [])) _
                      refine XS.iconst X0.here hx rfl (hb hby d2_103) ?_
                      show Steps p.tables e below (s₁.setTop (mkF m 104 #[.val (.int p1), .val (.int p2), .val (.int p3), .val (.int p4), .val (.int p5), .val (.int p1), .val (.int (p1 + p2)), .val (.int ((p1 + p2) + p3)), .val (.int (((p1 + p2) + p3) + p4))] [(.int (0 : Int32))])) _
                      exact retI X0 hx Bd.returns (hb hby d2_104) hr
                    · show Q2 Z p1 p2 p3 p4 p5 h0 n0 _ s₁.heap _
                      rw [e0]
                      have hv : (own_exp p1 p2 p3 p4 p5) = (0 : Int32) := by unfold own_exp; rw [if_pos hc22, if_neg hc32, if_pos hc38, if_neg hc48, if_neg hc54, if_neg hc70, if_neg hc86, if_neg hc92, if_neg hc98]
                      exact ⟨by rw [hv], N0, rfl⟩
      · have c23 : ∀ t, Steps p.tables e below (s₁.setTop (mkF m 54 #[.val (.int p1), .val (.int p2), .val (.int p3), .val (.int p4), .val (.int p5), .val (.int p1), .val (.int (p1 + p2)), .val (.int ((p1 + p2) + p3)), .val (.int (((p1 + p2) + p3) + p4))] [(.int p3)])) t → Steps p.tables e below (s₁.setTop (entryFrame m #[(.int p1), (.int p2), (.int p3), (.int p4), (.int p5)] 9)) t := fun t kt => by
          refine c3 _ ?_
          show Steps p.tables e below (s₁.setTop (mkF m 38 #[.val (.int p1), .val (.int p2), .val (.int p3), .val (.int p4), .val (.int p5), .val (.int p1), .val (.int (p1 + p2)), .val (.int ((p1 + p2) + p3)), .val (.int (((p1 + p2) + p3) + p4))] [(.int p2)])) _
          refine XS.ifYes X0.here hx rfl (pc0 := 38) (pc' := 53) rfl (hb hby d2_38) rfl ((if0 _ _).trans (flt hc38).2.2.2) (by decide) (by decide) ?_
          show Steps p.tables e below (s₁.setTop (mkF m 53 #[.val (.int p1), .val (.int p2), .val (.int p3), .val (.int p4), .val (.int p5), .val (.int p1), .val (.int (p1 + p2)), .val (.int ((p1 + p2) + p3)), .val (.int (((p1 + p2) + p3) + p4))] [])) _
          refine XS.iloadN X0.here hx rfl (hb hby d2_53) rfl ?_
          exact kt
        by_cases hc54 : (0 : Int32) < p3
        · have c24 : ∀ t, Steps p.tables e below (s₁.setTop (mkF m 64 #[.val (.int p1), .val (.int p2), .val (.int p3), .val (.int p4), .val (.int p5), .val (.int p1), .val (.int (p1 + p2)), .val (.int ((p1 + p2) + p3)), .val (.int (((p1 + p2) + p3) + p4))] [(.int ((16 : Int32) * ((p1 + p2) + p3))), (.int p5)])) t → Steps p.tables e below (s₁.setTop (entryFrame m #[(.int p1), (.int p2), (.int p3), (.int p4), (.int p5)] 9)) t := fun t kt => by
            refine c23 _ ?_
            show Steps p.tables e below (s₁.setTop (mkF m 54 #[.val (.int p1), .val (.int p2), .val (.int p3), .val (.int p4), .val (.int p5), .val (.int p1), .val (.int (p1 + p2)), .val (.int ((p1 + p2) + p3)), .val (.int (((p1 + p2) + p3) + p4))] [(.int p3)])) _
            refine XS.ifNo X0.here hx rfl (hb hby d2_54) rfl ((if0 _ _).trans (tlt hc54).2.2.2) ?_
            show Steps p.tables e below (s₁.setTop (mkF m 57 #[.val (.int p1), .val (.int p2), .val (.int p3), .val (.int p4), .val (.int p5), .val (.int p1), .val (.int (p1 + p2)), .val (.int ((p1 + p2) + p3)), .val (.int (((p1 + p2) + p3) + p4))] [])) _
            refine XS.iload X0.here hx rfl (hb hby d2_57) rfl ?_
            show Steps p.tables e below (s₁.setTop (mkF m 59 #[.val (.int p1), .val (.int p2), .val (.int p3), .val (.int p4), .val (.int p5), .val (.int p1), .val (.int (p1 + p2)), .val (.int ((p1 + p2) + p3)), .val (.int (((p1 + p2) + p3) + p4))] [(.int p5)])) _
            refine XS.bipush X0.here hx rfl (hb hby d2_59) ?_
            show Steps p.tables e below (s₁.setTop (mkF m 61 #[.val (.int p1), .val (.int p2), .val (.int p3), .val (.int p4), .val (.int p5), .val (.int p1), .val (.int (p1 + p2)), .val (.int ((p1 + p2) + p3)), .val (.int (((p1 + p2) + p3) + p4))] [(.int (16 : Int32)), (.int p5)])) _
            refine XS.iload X0.here hx rfl (hb hby d2_61) rfl ?_
            show Steps p.tables e below (s₁.setTop (mkF m 63 #[.val (.int p1), .val (.int p2), .val (.int p3), .val (.int p4), .val (.int p5), .val (.int p1), .val (.int (p1 + p2)), .val (.int ((p1 + p2) + p3)), .val (.int (((p1 + p2) + p3) + p4))] [(.int ((p1 + p2) + p3)), (.int (16 : Int32)), (.int p5)])) _
            refine XS.imul X0.here hx rfl (hb hby d2_63) rfl ?_
            exact kt
          by_cases hc64 : p5 < ((16 : Int32) * ((p1 + p2) + p3))
          · obtain ⟨fs, hr, hrun, hended, hW, hsame⟩ := X0.leave (v := some (.int (2 : Int32))) (fun h => by rw [Bd.returns] at h; cases h)
            refine ⟨_, _, c24 _ ?_, hrun, hended, _, _, rfl, ?_, ⟨_, rfl⟩, hW, hsame.mono (by decide) (by decide)⟩
            · show Steps p.tables e below (s₁.setTop (mkF m 64 #[.val (.int p1), .val (.int p2), .val (.int p3), .val (.int p4), .val (.int p5), .val (.int p1), .val (.int (p1 + p2)), .val (.int ((p1 + p2) + p3)), .val (.int (((p1 + p2) + p3) + p4))] [(.int ((16 : Int32) * ((p1 + p2) + p3))), (.int p5)])) _
              refine XS.icmpNo X0.here hx rfl (hb hby d2_64) rfl (tlt hc64).2.1 ?_
              show Steps p.tables e below (s₁.setTop (mkF m 67 #[.val (.int p1), .val (.int p2), .val (.int p3), .val (.int p4), .val (.int p5), .val (.int p1), .val (.int (p1 + p2)), .val (.int ((p1 + p2) + p3)), .val (.int (((p1 + p2) + p3) + p4))] [])) _
              refine XS.iconst X0.here hx rfl (hb hby d2_67) ?_
              show Steps p.tables e below (s₁.setTop (mkF m 68 #[.val (.int p1), .val (.int p2), .val (.int p3), .val (.int p4), .val (.int p5), .val (.int p1), .val (.int (p1 + p2)), .val (.int ((p1 + p2) + p3)), .val (.int (((p1 + p2) + p3) + p4))] [(.int (2 : Int32))])) _
              exact retI X0 hx Bd.returns (hb hby d2_68) hr
            · show Q2 Z p1 p2 p3 p4 p5 h0 n0 _ s₁.heap _
              rw [e0]
              have hv : (own_exp p1 p2 p3 p4 p5) = (2 : Int32) := by unfold own_exp; rw [if_pos hc22, if_neg hc32, if_neg hc38, if_pos hc54, if_pos hc64]
              exact ⟨by rw [hv], N0, rfl⟩
          · have c25 : ∀ t, Steps p.tables e below (s₁.setTop (mkF m 70 #[.val (.int p1), .val (.int p2), .val (.int p3), .val (.int p4), .val (.int p5), .val (.int p1), .val (.int (p1 + p2)), .val (.int ((p1 + p2) + p3)), .val (.int (((p1 + p2) + p3) + p4))] [(.int p4)])) t → Steps p.tables e below (s₁.setTop (entryFrame m #[(.int p1), (.int p2), (.int p3), (.int p4), (.int p5)] 9)) t := fun t kt => by
              refine c24 _ ?_
              show Steps p.tables e below (s₁.setTop (mkF m 64 #[.val (.int p1), .val (.int p2), .val (.int p3), .val (.int p4), .val (.int p5), .val (.int p1), .val (.int (p1 + p2)), .val (.int ((p1 + p2) + p3)), .val (.int (((p1 + p2) + p3) + p4))] [(.int ((16 : Int32) * ((p1 + p2) + p3))), (.int p5)])) _
              refine XS.icmpYes X0.here hx rfl (pc0 := 64) (pc' := 69) rfl (hb hby d2_64) rfl (flt hc64).2.1 (by decide) (by decide) ?_
              show Steps p.tables e below (s₁.setTop (mkF m 69 #[.val (.int p1), .val (.int p2), .val (.int p3), .val (.int p4), .val (.int p5), .val (.int p1), .val (.int (p1 + p2)), .val (.int ((p1 + p2) + p3)), .val (.int (((p1 + p2) + p3) + p4))] [])) _
              refine XS.iloadN X0.here hx rfl (hb hby d2_69) rfl ?_
              exact kt
            by_cases hc70 : (0 : Int32) < p4
            · have c26 : ∀ t, Steps p.tables e below (s₁.setTop (mkF m 80 #[.val (.int p1), .val (.int p2), .val (.int p3), .val (.int p4), .val (.int p5), .val (.int p1), .val (.int (p1 + p2)), .val (.int ((p1 + p2) + p3)), .val (.int (((p1 + p2) + p3) + p4))] [(.int ((16 : Int32) * (((p1 + p2) + p3) + p4))), (.int p5)])) t → Steps p.tables e below (s₁.setTop (entryFrame m #[(.int p1), (.int p2), (.int p3), (.int p4), (.int p5)] 9)) t := fun t kt => by
                refine c25 _ ?_
                show Steps p.tables e below (s₁.setTop (mkF m 70 #[.val (.int p1), .val (.int p2), .val (.int p3), .val (.int p4), .val (.int p5), .val (.int p1), .val (.int (p1 + p2)), .val (.int ((p1 + p2) + p3)), .val (.int (((p1 + p2) + p3) + p4))] [(.int p4)])) _
                refine XS.ifNo X0.here hx rfl (hb hby d2_70) rfl ((if0 _ _).trans (tlt hc70).2.2.2) ?_
                show Steps p.tables e below (s₁.setTop (mkF m 73 #[.val (.int p1), .val (.int p2), .val (.int p3), .val (.int p4), .val (.int p5), .val (.int p1), .val (.int (p1 + p2)), .val (.int ((p1 + p2) + p3)), .val (.int (((p1 + p2) + p3) + p4))] [])) _
                refine XS.iload X0.here hx rfl (hb hby d2_73) rfl ?_
                show Steps p.tables e below (s₁.setTop (mkF m 75 #[.val (.int p1), .val (.int p2), .val (.int p3), .val (.int p4), .val (.int p5), .val (.int p1), .val (.int (p1 + p2)), .val (.int ((p1 + p2) + p3)), .val (.int (((p1 + p2) + p3) + p4))] [(.int p5)])) _
                refine XS.bipush X0.here hx rfl (hb hby d2_75) ?_
                show Steps p.tables e below (s₁.setTop (mkF m 77 #[.val (.int p1), .val (.int p2), .val (.int p3), .val (.int p4), .val (.int p5), .val (.int p1), .val (.int (p1 + p2)), .val (.int ((p1 + p2) + p3)), .val (.int (((p1 + p2) + p3) + p4))] [(.int (16 : Int32)), (.int p5)])) _
                refine XS.iload X0.here hx rfl (hb hby d2_77) rfl ?_
                show Steps p.tables e below (s₁.setTop (mkF m 79 #[.val (.int p1), .val (.int p2), .val (.int p3), .val (.int p4), .val (.int p5), .val (.int p1), .val (.int (p1 + p2)), .val (.int ((p1 + p2) + p3)), .val (.int (((p1 + p2) + p3) + p4))] [(.int (((p1 + p2) + p3) + p4)), (.int (16 : Int32)), (.int p5)])) _
                refine XS.imul X0.here hx rfl (hb hby d2_79) rfl ?_
                exact kt
              by_cases hc80 : p5 < ((16 : Int32) * (((p1 + p2) + p3) + p4))
              · obtain ⟨fs, hr, hrun, hended, hW, hsame⟩ := X0.leave (v := some (.int (3 : Int32))) (fun h => by rw [Bd.returns] at h; cases h)
                refine ⟨_, _, c26 _ ?_, hrun, hended, _, _, rfl, ?_, ⟨_, rfl⟩, hW, hsame.mono (by decide) (by decide)⟩
                · show Steps p.tables e below (s₁.setTop (mkF m 80 #[.val (.int p1), .val (.int p2), .val (.int p3), .val (.int p4), .val (.int p5), .val (.int p1), .val (.int (p1 + p2)), .val (.int ((p1 + p2) + p3)), .val (.int (((p1 + p2) + p3) + p4))] [(.int ((16 : Int32) * (((p1 + p2) + p3) + p4))), (.int p5)])) _
                  refine XS.icmpNo X0.here hx rfl (hb hby d2_80) rfl (tlt hc80).2.1 ?_
                  show Steps p.tables e below (s₁.setTop (mkF m 83 #[.val (.int p1), .val (.int p2), .val (.int p3), .val (.int p4), .val (.int p5), .val (.int p1), .val (.int (p1 + p2)), .val (.int ((p1 + p2) + p3)), .val (.int (((p1 + p2) + p3) + p4))] [])) _
                  refine XS.iconst X0.here hx rfl (hb hby d2_83) ?_
                  show Steps p.tables e below (s₁.setTop (mkF m 84 #[.val (.int p1), .val (.int p2), .val (.int p3), .val (.int p4), .val (.int p5), .val (.int p1), .val (.int (p1 + p2)), .val (.int ((p1 + p2) + p3)), .val (.int (((p1 + p2) + p3) + p4))] [(.int (3 : Int32))])) _
                  exact retI X0 hx Bd.returns (hb hby d2_84) hr
                · show Q2 Z p1 p2 p3 p4 p5 h0 n0 _ s₁.heap _
                  rw [e0]
                  have hv : (own_exp p1 p2 p3 p4 p5) = (3 : Int32) := by unfold own_exp; rw [if_pos hc22, if_neg hc32, if_neg hc38, if_pos hc54, if_neg hc64, if_pos hc70, if_pos hc80]
                  exact ⟨by rw [hv], N0, rfl⟩
              · have c27 : ∀ t, Steps p.tables e below (s₁.setTop (mkF m 86 #[.val (.int p1), .val (.int p2), .val (.int p3), .val (.int p4), .val (.int p5), .val (.int p1), .val (.int (p1 + p2)), .val (.int ((p1 + p2) + p3)), .val (.int (((p1 + p2) + p3) + p4))] [(.int p4)])) t → Steps p.tables e below (s₁.setTop (entryFrame m #[(.int p1), (.int p2), (.int p3), (.int p4), (.int p5)] 9)) t := fun t kt => by
                  refine c26 _ ?_
                  show Steps p.tables e below (s₁.setTop (mkF m 80 #[.val (.int p1), .val (.int p2), .val (.int p3), .val (.int p4), .val (.int p5), .val (.int p1), .val (.int (p1 + p2)), .val (.int ((p1 + p2) + p3)), .val (.int (((p1 + p2) + p3) + p4))] [(.int ((16 : Int32) * (((p1 + p2) + p3) + p4))), (.int p5)])) _
                  refine XS.icmpYes X0.here hx rfl (pc0 := 80) (pc' := 85) rfl (hb hby d2_80) rfl (flt hc80).2.1 (by decide) (by decide) ?_
                  show Steps p.tables e below (s₁.setTop (mkF m 85 #[.val (.int p1), .val (.int p2), .val (.int p3), .val (.int p4), .val (.int p5), .val (.int p1), .val (.int (p1 + p2)), .val (.int ((p1 + p2) + p3)), .val (.int (((p1 + p2) + p3) + p4))] [])) _
                  refine XS.iloadN X0.here hx rfl (hb hby d2_85) rfl ?_
                  exact kt
                by_cases hc86 : (0 : Int32) < p4
                · obtain ⟨fs, hr, hrun, hended, hW, hsame⟩ := X0.leave (v := some (.int (3 : Int32))) (fun h => by rw [Bd.returns] at h; cases h)
                  refine ⟨_, _, c27 _ ?_, hrun, hended, _, _, rfl, ?_, ⟨_, rfl⟩, hW, hsame.mono (by decide) (by decide)⟩
                  · show Steps p.tables e below (s₁.setTop (mkF m 86 #[.val (.int p1), .val (.int p2), .val (.int p3), .val (.int p4), .val (.int p5), .val (.int p1), .val (.int (p1 + p2)), .val (.int ((p1 + p2) + p3)), .val (.int (((p1 + p2) + p3) + p4))] [(.int p4)])) _
                    refine XS.ifNo X0.here hx rfl (hb hby d2_86) rfl ((if0 _ _).trans (tlt hc86).2.2.2) ?_
                    show Steps p.tables e below (s₁.setTop (mkF m 89 #[.val (.int p1), .val (.int p2), .val (.int p3), .val (.int p4), .val (.int p5), .val (.int p1), .val (.int (p1 + p2)), .val (.int ((p1 + p2) + p3)), .val (.int (((p1 + p2) + p3) + p4))] [])) _
                    refine XS.iconst X0.here hx rfl (hb hby d2_89) ?_
                    show Steps p.tables e below (s₁.setTop (mkF m 90 #[.val (.int p1), .val (.int p2), .val (.int p3), .val (.int p4), .val (.int p5), .val (.int p1), .val (.int (p1 + p2)), .val (.int ((p1 + p2) + p3)), .val (.int (((p1 + p2) + p3) + p4))] [(.int (3 : Int32))])) _
                    exact retI X0 hx Bd.returns (hb hby d2_90) hr
                  · show Q2 Z p1 p2 p3 p4 p5 h0 n0 _ s₁.heap _
                    rw [e0]
                    have hv : (own_exp p1 p2 p3 p4 p5) = (3 : Int32) := by unfold own_exp; rw [if_pos hc22, if_neg hc32, if_neg hc38, if_pos hc54, if_neg hc64, if_pos hc70, if_neg hc80, if_pos hc86]
                    exact ⟨by rw [hv], N0, rfl⟩
                · have c28 : ∀ t, Steps p.tables e below (s₁.setTop (mkF m 92 #[.val (.int p1), .val (.int p2), .val (.int p3), .val (.int p4), .val (.int p5), .val (.int p1), .val (.int (p1 + p2)), .val (.int ((p1 + p2) + p3)), .val (.int (((p1 + p2) + p3) + p4))] [(.int p3)])) t → Steps p.tables e below (s₁.setTop (entryFrame m #[(.int p1), (.int p2), (.int p3), (.int p4), (.int p5)] 9)) t := fun t kt => by
                    refine c27 _ ?_
                    show Steps p.tables e below (s₁.setTop (mkF m 86 #[.val (.int p1), .val (.int p2), .val (.int p3), .val (.int p4), .val (.int p5), .val (.int p1), .val (.int (p1 + p2)), .val (.int ((p1 + p2) + p3)), .val (.int (((p1 + p2) + p3) + p4))] [(.int p4)])) _
                    refine XS.ifYes X0.here hx rfl (pc0 := 86) (pc' := 91) rfl (hb hby d2_86) rfl ((if0 _ _).trans (flt hc86).2.2.2) (by decide) (by decide) ?_
                    show Steps p.tables e below (s₁.setTop (mkF m 91 #[.val (.int p1), .val (.int p2), .val (.int p3), .val (.int p4), .val (.int p5), .val (.int p1), .val (.int (p1 + p2)), .val (.int ((p1 + p2) + p3)), .val (.int (((p1 + p2) + p3) + p4))] [])) _
                    refine XS.iloadN X0.here hx rfl (hb hby d2_91) rfl ?_
                    exact kt
                  by_cases hc92 : (0 : Int32) < p3
                  · obtain ⟨fs, hr, hrun, hended, hW, hsame⟩ := X0.leave (v := some (.int (2 : Int32))) (fun h => by rw [Bd.returns] at h; cases h)
                    refine ⟨_, _, c28 _ ?_, hrun, hended, _, _, rfl, ?_, ⟨_, rfl⟩, hW, hsame.mono (by decide) (by decide)⟩
                    · show Steps p.tables e below (s₁.setTop (mkF m 92 #[.val (.int p1), .val (.int p2), .val (.int p3), .val (.int p4), .val (.int p5), .val (.int p1), .val (.int (p1 + p2)), .val (.int ((p1 + p2) + p3)), .val (.int (((p1 + p2) + p3) + p4))] [(.int p3)])) _
                      refine XS.ifNo X0.here hx rfl (hb hby d2_92) rfl ((if0 _ _).trans (tlt hc92).2.2.2) ?_
                      show Steps p.tables e below (s₁.setTop (mkF m 95 #[.val (.int p1), .val (.int p2), .val (.int p3), .val (.int p4), .val (.int p5), .val (.int p1), .val (.int (p1 + p2)), .val (.int ((p1 + p2) + p3)), .val (.int (((p1 + p2) + p3) + p4))] [])) _
                      refine XS.iconst X0.here hx rfl (hb hby d2_95) ?_
                      show Steps p.tables e below (s₁.setTop (mkF m 96 #[.val (.int p1), .val (.int p2), .val (.int p3), .val (.int p4), .val (.int p5), .val (.int p1), .val (.int (p1 + p2)), .val (.int ((p1 + p2) + p3)), .val (.int (((p1 + p2) + p3) + p4))] [(.int (2 : Int32))])) _
                      exact retI X0 hx Bd.returns (hb hby d2_96) hr
                    · show Q2 Z p1 p2 p3 p4 p5 h0 n0 _ s₁.heap _
                      rw [e0]
                      have hv : (own_exp p1 p2 p3 p4 p5) = (2 : Int32) := by unfold own_exp; rw [if_pos hc22, if_neg hc32, if_neg hc38, if_pos hc54, if_neg hc64, if_pos hc70, if_neg hc80, if_neg hc86, if_pos hc92]
                      exact ⟨by rw [hv], N0, rfl⟩
                  · have c29 : ∀ t, Steps p.tables e below (s₁.setTop (mkF m 98 #[.val (.int p1), .val (.int p2), .val (.int p3), .val (.int p4), .val (.int p5), .val (.int p1), .val (.int (p1 + p2)), .val (.int ((p1 + p2) + p3)), .val (.int (((p1 + p2) + p3) + p4))] [(.int p2)])) t → Steps p.tables e below (s₁.setTop (entryFrame m #[(.int p1), (.int p2), (.int p3), (.int p4), (.int p5)] 9)) t := fun t kt => by
                      refine c28 _ ?_
                      show Steps p.tables e below (s₁.setTop (mkF m 92 #[.val (.int p1), .val (.int p2), .val (.int p3), .val (.int p4), .val (.int p5), .val (.int p1), .val (.int (p1 + p2)), .val (.int ((p1 + p2) + p3)), .val (.int (((p1 + p2) + p3) + p4))] [(.int p3)])) _
                      refine XS.ifYes X0.here hx rfl (pc0 := 92) (pc' := 97) rfl (hb hby d2_92) rfl ((if0 _ _).trans (flt hc92).2.2.2) (by decide) (by decide) ?_
                      show Steps p.tables e below (s₁.setTop (mkF m 97 #[.val (.int p1), .val (.int p2), .val (.int p3), .val (.int p4), .val (.int p5), .val (.int p1), .val (.int (p1 + p2)), .val (.int ((p1 + p2) + p3)), .val (.int (((p1 + p2) + p3) + p4))] [])) _
                      refine XS.iloadN X0.here hx rfl (hb hby d2_97) rfl ?_
                      exact kt
                    by_cases hc98 : (0 : Int32) < p2
                    · obtain ⟨fs, hr, hrun, hended, hW, hsame⟩ := X0.leave (v := some (.int (1 : Int32))) (fun h => by rw [Bd.returns] at h; cases h)
                      refine ⟨_, _, c29 _ ?_, hrun, hended, _, _, rfl, ?_, ⟨_, rfl⟩, hW, hsame.mono (by decide) (by decide)⟩
                      · show Steps p.tables e below (s₁.setTop (mkF m 98 #[.val (.int p1), .val (.int p2), .val (.int p3), .val (.int p4), .val (.int p5), .val (.int p1), .val (.int (p1 + p2)), .val (.int ((p1 + p2) + p3)), .val (.int (((p1 + p2) + p3) + p4))] [(.int p2)])) _
                        refine XS.ifNo X0.here hx rfl (hb hby d2_98) rfl ((if0 _ _).trans (tlt hc98).2.2.2) ?_
                        show Steps p.tables e below (s₁.setTop (mkF m 101 #[.val (.int p1), .val (.int p2), .val (.int p3), .val (.int p4), .val (.int p5), .val (.int p1), .val (.int (p1 + p2)), .val (.int ((p1 + p2) + p3)), .val (.int (((p1 + p2) + p3) + p4))] [])) _
                        refine XS.iconst X0.here hx rfl (hb hby d2_101) ?_
                        show Steps p.tables e below (s₁.setTop (mkF m 102 #[.val (.int p1), .val (.int p2), .val (.int p3), .val (.int p4), .val (.int p5), .val (.int p1), .val (.int (p1 + p2)), .val (.int ((p1 + p2) + p3)), .val (.int (((p1 + p2) + p3) + p4))] [(.int (1 : Int32))])) _
                        exact retI X0 hx Bd.returns (hb hby d2_102) hr
                      · show Q2 Z p1 p2 p3 p4 p5 h0 n0 _ s₁.heap _
                        rw [e0]
                        have hv : (own_exp p1 p2 p3 p4 p5) = (1 : Int32) := by unfold own_exp; rw [if_pos hc22, if_neg hc32, if_neg hc38, if_pos hc54, if_neg hc64, if_pos hc70, if_neg hc80, if_neg hc86, if_neg hc92, if_pos hc98]
                        exact ⟨by rw [hv], N0, rfl⟩
                    · obtain ⟨fs, hr, hrun, hended, hW, hsame⟩ := X0.leave (v := some (.int (0 : Int32))) (fun h => by rw [Bd.returns] at h; cases h)
                      refine ⟨_, _, c29 _ ?_, hrun, hended, _, _, rfl, ?_, ⟨_, rfl⟩, hW, hsame.mono (by decide) (by decide)⟩
                      · show Steps p.tables e below (s₁.setTop (mkF m 98 #[.val (.int p1), .val (.int p2), .val (.int p3), .val (.int p4), .val (.int p5), .val (.int p1), .val (.int (p1 + p2)), .val (.int ((p1 + p2) + p3)), .val (.int (((p1 + p2) + p3) + p4))] [(.int p2)])) _
                        refine XS.ifYes X0.here hx rfl (pc0 := 98) (pc' := 103) rfl (hb hby d2_98) rfl ((if0 _ _).trans (flt hc98).2.2.2) (by decide) (by decide) ?_
                        show Steps p.tables e below (s₁.setTop (mkF m 103 #[.val (.int p1), .val (.int p2), .val (.int p3), .val (.int p4), .val (.int p5), .val (.int p1), .val (.int (p1 + p2)), .val (.int ((p1 + p2) + p3)), .val (.int (((p1 + p2) + p3) + p4))] [])) _
                        refine XS.iconst X0.here hx rfl (hb hby d2_103) ?_
                        show Steps p.tables e below (s₁.setTop (mkF m 104 #[.val (.int p1), .val (.int p2), .val (.int p3), .val (.int p4), .val (.int p5), .val (.int p1), .val (.int (p1 + p2)), .val (.int ((p1 + p2) + p3)), .val (.int (((p1 + p2) + p3) + p4))] [(.int (0 : Int32))])) _
                        exact retI X0 hx Bd.returns (hb hby d2_104) hr
                      · show Q2 Z p1 p2 p3 p4 p5 h0 n0 _ s₁.heap _
                        rw [e0]
                        have hv : (own_exp p1 p2 p3 p4 p5) = (0 : Int32) := by unfold own_exp; rw [if_pos hc22, if_neg hc32, if_neg hc38, if_pos hc54, if_neg hc64, if_pos hc70, if_neg hc80, if_neg hc86, if_neg hc92, if_neg hc98]
                        exact ⟨by rw [hv], N0, rfl⟩
            · have c30 : ∀ t, Steps p.tables e below (s₁.setTop (mkF m 86 #[.val (.int p1), .val (.int p2), .val (.int p3), .val (.int p4), .val (.int p5), .val (.int p1), .val (.int (p1 + p2)), .val (.int ((p1 + p2) + p3)), .val (.int (((p1 + p2) + p3) + p4))] [(.int p4)])) t → Steps p.tables e below (s₁.setTop (entryFrame m #[(.int p1), (.int p2), (.int p3), (.int p4), (.int p5)] 9)) t := fun t kt => by
                refine c25 _ ?_
                show Steps p.tables e below (s₁.setTop (mkF m 70 #[.val (.int p1), .val (.int p2), .val (.int p3), .val (.int p4), .val (.int p5), .val (.int p1), .val (.int (p1 + p2)), .val (.int ((p1 + p2) + p3)), .val (.int (((p1 + p2) + p3) + p4))] [(.int p4)])) _
                refine XS.ifYes X0.here hx rfl (pc0 := 70) (pc' := 85) rfl (hb hby d2_70) rfl ((if0 _ _).trans (flt hc70).2.2.2) (by decide) (by decide) ?_
                show Steps p.tables e below (s₁.setTop (mkF m 85 #[.val (.int p1), .val (.int p2), .val (.int p3), .val (.int p4), .val (.int p5), .val (.int p1), .val (.int (p1 + p2)), .val (.int ((p1 + p2) + p3)), .val (.int (((p1 + p2) + p3) + p4))] [])) _
                refine XS.iloadN X0.here hx rfl (hb hby d2_85) rfl ?_
                exact kt
              by_cases hc86 : (0 : Int32) < p4
              · obtain ⟨fs, hr, hrun, hended, hW, hsame⟩ := X0.leave (v := some (.int (3 : Int32))) (fun h => by rw [Bd.returns] at h; cases h)
                refine ⟨_, _, c30 _ ?_, hrun, hended, _, _, rfl, ?_, ⟨_, rfl⟩, hW, hsame.mono (by decide) (by decide)⟩
                · show Steps p.tables e below (s₁.setTop (mkF m 86 #[.val (.int p1), .val (.int p2), .val (.int p3), .val (.int p4), .val (.int p5), .val (.int p1), .val (.int (p1 + p2)), .val (.int ((p1 + p2) + p3)), .val (.int (((p1 + p2) + p3) + p4))] [(.int p4)])) _
                  refine XS.ifNo X0.here hx rfl (hb hby d2_86) rfl ((if0 _ _).trans (tlt hc86).2.2.2) ?_
                  show Steps p.tables e below (s₁.setTop (mkF m 89 #[.val (.int p1), .val (.int p2), .val (.int p3), .val (.int p4), .val (.int p5), .val (.int p1), .val (.int (p1 + p2)), .val (.int ((p1 + p2) + p3)), .val (.int (((p1 + p2) + p3) + p4))] [])) _
                  refine XS.iconst X0.here hx rfl (hb hby d2_89) ?_
                  show Steps p.tables e below (s₁.setTop (mkF m 90 #[.val (.int p1), .val (.int p2), .val (.int p3), .val (.int p4), .val (.int p5), .val (.int p1), .val (.int (p1 + p2)), .val (.int ((p1 + p2) + p3)), .val (.int (((p1 + p2) + p3) + p4))] [(.int (3 : Int32))])) _
                  exact retI X0 hx Bd.returns (hb hby d2_90) hr
                · show Q2 Z p1 p2 p3 p4 p5 h0 n0 _ s₁.heap _
                  rw [e0]
                  have hv : (own_exp p1 p2 p3 p4 p5) = (3 : Int32) := by unfold own_exp; rw [if_pos hc22, if_neg hc32, if_neg hc38, if_pos hc54, if_neg hc64, if_neg hc70, if_pos hc86]
                  exact ⟨by rw [hv], N0, rfl⟩
              · have c31 : ∀ t, Steps p.tables e below (s₁.setTop (mkF m 92 #[.val (.int p1), .val (.int p2), .val (.int p3), .val (.int p4), .val (.int p5), .val (.int p1), .val (.int (p1 + p2)), .val (.int ((p1 + p2) + p3)), .val (.int (((p1 + p2) + p3) + p4))] [(.int p3)])) t → Steps p.tables e below (s₁.setTop (entryFrame m #[(.int p1), (.int p2), (.int p3), (.int p4), (.int p5)] 9)) t := fun t kt => by
                  refine c30 _ ?_
                  show Steps p.tables e below (s₁.setTop (mkF m 86 #[.val (.int p1), .val (.int p2), .val (.int p3), .val (.int p4), .val (.int p5), .val (.int p1), .val (.int (p1 + p2)), .val (.int ((p1 + p2) + p3)), .val (.int (((p1 + p2) + p3) + p4))] [(.int p4)])) _
                  refine XS.ifYes X0.here hx rfl (pc0 := 86) (pc' := 91) rfl (hb hby d2_86) rfl ((if0 _ _).trans (flt hc86).2.2.2) (by decide) (by decide) ?_
                  show Steps p.tables e below (s₁.setTop (mkF m 91 #[.val (.int p1), .val (.int p2), .val (.int p3), .val (.int p4), .val (.int p5), .val (.int p1), .val (.int (p1 + p2)), .val (.int ((p1 + p2) + p3)), .val (.int (((p1 + p2) + p3) + p4))] [])) _
                  refine XS.iloadN X0.here hx rfl (hb hby d2_91) rfl ?_
                  exact kt
                by_cases hc92 : (0 : Int32) < p3
                · obtain ⟨fs, hr, hrun, hended, hW, hsame⟩ := X0.leave (v := some (.int (2 : Int32))) (fun h => by rw [Bd.returns] at h; cases h)
                  refine ⟨_, _, c31 _ ?_, hrun, hended, _, _, rfl, ?_, ⟨_, rfl⟩, hW, hsame.mono (by decide) (by decide)⟩
                  · show Steps p.tables e below (s₁.setTop (mkF m 92 #[.val (.int p1), .val (.int p2), .val (.int p3), .val (.int p4), .val (.int p5), .val (.int p1), .val (.int (p1 + p2)), .val (.int ((p1 + p2) + p3)), .val (.int (((p1 + p2) + p3) + p4))] [(.int p3)])) _
                    refine XS.ifNo X0.here hx rfl (hb hby d2_92) rfl ((if0 _ _).trans (tlt hc92).2.2.2) ?_
                    show Steps p.tables e below (s₁.setTop (mkF m 95 #[.val (.int p1), .val (.int p2), .val (.int p3), .val (.int p4), .val (.int p5), .val (.int p1), .val (.int (p1 + p2)), .val (.int ((p1 + p2) + p3)), .val (.int (((p1 + p2) + p3) + p4))] [])) _
                    refine XS.iconst X0.here hx rfl (hb hby d2_95) ?_
                    show Steps p.tables e below (s₁.setTop (mkF m 96 #[.val (.int p1), .val (.int p2), .val (.int p3), .val (.int p4), .val (.int p5), .val (.int p1), .val (.int (p1 + p2)), .val (.int ((p1 + p2) + p3)), .val (.int (((p1 + p2) + p3) + p4))] [(.int (2 : Int32))])) _
                    exact retI X0 hx Bd.returns (hb hby d2_96) hr
                  · show Q2 Z p1 p2 p3 p4 p5 h0 n0 _ s₁.heap _
                    rw [e0]
                    have hv : (own_exp p1 p2 p3 p4 p5) = (2 : Int32) := by unfold own_exp; rw [if_pos hc22, if_neg hc32, if_neg hc38, if_pos hc54, if_neg hc64, if_neg hc70, if_neg hc86, if_pos hc92]
                    exact ⟨by rw [hv], N0, rfl⟩
                · have c32 : ∀ t, Steps p.tables e below (s₁.setTop (mkF m 98 #[.val (.int p1), .val (.int p2), .val (.int p3), .val (.int p4), .val (.int p5), .val (.int p1), .val (.int (p1 + p2)), .val (.int ((p1 + p2) + p3)), .val (.int (((p1 + p2) + p3) + p4))] [(.int p2)])) t → Steps p.tables e below (s₁.setTop (entryFrame m #[(.int p1), (.int p2), (.int p3), (.int p4), (.int p5)] 9)) t := fun t kt => by
                    refine c31 _ ?_
                    show Steps p.tables e below (s₁.setTop (mkF m 92 #[.val (.int p1), .val (.int p2), .val (.int p3), .val (.int p4), .val (.int p5), .val (.int p1), .val (.int (p1 + p2)), .val (.int ((p1 + p2) + p3)), .val (.int (((p1 + p2) + p3) + p4))] [(.int p3)])) _
                    refine XS.ifYes X0.here hx rfl (pc0 := 92) (pc' := 97) rfl (hb hby d2_92) rfl ((if0 _ _).trans (flt hc92).2.2.2) (by decide) (by decide) ?_
                    show Steps p.tables e below (s₁.setTop (mkF m 97 #[.val (.int p1), .val (.int p2), .val (.int p3), .val (.int p4), .val (.int p5), .val (.int p1), .val (.int (p1 + p2)), .val (.int ((p1 + p2) + p3)), .val (.int (((p1 + p2) + p3) + p4))] [])) _
                    refine XS.iloadN X0.here hx rfl (hb hby d2_97) rfl ?_
                    exact kt
                  by_cases hc98 : (0 : Int32) < p2
                  · obtain ⟨fs, hr, hrun, hended, hW, hsame⟩ := X0.leave (v := some (.int (1 : Int32))) (fun h => by rw [Bd.returns] at h; cases h)
                    refine ⟨_, _, c32 _ ?_, hrun, hended, _, _, rfl, ?_, ⟨_, rfl⟩, hW, hsame.mono (by decide) (by decide)⟩
                    · show Steps p.tables e below (s₁.setTop (mkF m 98 #[.val (.int p1), .val (.int p2), .val (.int p3), .val (.int p4), .val (.int p5), .val (.int p1), .val (.int (p1 + p2)), .val (.int ((p1 + p2) + p3)), .val (.int (((p1 + p2) + p3) + p4))] [(.int p2)])) _
                      refine XS.ifNo X0.here hx rfl (hb hby d2_98) rfl ((if0 _ _).trans (tlt hc98).2.2.2) ?_
                      show Steps p.tables e below (s₁.setTop (mkF m 101 #[.val (.int p1), .val (.int p2), .val (.int p3), .val (.int p4), .val (.int p5), .val (.int p1), .val (.int (p1 + p2)), .val (.int ((p1 + p2) + p3)), .val (.int (((p1 + p2) + p3) + p4))] [])) _
                      refine XS.iconst X0.here hx rfl (hb hby d2_101) ?_
                      show Steps p.tables e below (s₁.setTop (mkF m 102 #[.val (.int p1), .val (.int p2), .val (.int p3), .val (.int p4), .val (.int p5), .val (.int p1), .val (.int (p1 + p2)), .val (.int ((p1 + p2) + p3)), .val (.int (((p1 + p2) + p3) + p4))] [(.int (1 : Int32))])) _
                      exact retI X0 hx Bd.returns (hb hby d2_102) hr
                    · show Q2 Z p1 p2 p3 p4 p5 h0 n0 _ s₁.heap _
                      rw [e0]
                      have hv : (own_exp p1 p2 p3 p4 p5) = (1 : Int32) := by unfold own_exp; rw [if_pos hc22, if_neg hc32, if_neg hc38, if_pos hc54, if_neg hc64, if_neg hc70, if_neg hc86, if_neg hc92, if_pos hc98]
                      exact ⟨by rw [hv], N0, rfl⟩
                  · obtain ⟨fs, hr, hrun, hended, hW, hsame⟩ := X0.leave (v := some (.int (0 : Int32))) (fun h => by rw [Bd.returns] at h; cases h)
                    refine ⟨_, _, c32 _ ?_, hrun, hended, _, _, rfl, ?_, ⟨_, rfl⟩, hW, hsame.mono (by decide) (by decide)⟩
                    · show Steps p.tables e below (s₁.setTop (mkF m 98 #[.val (.int p1), .val (.int p2), .val (.int p3), .val (.int p4), .val (.int p5), .val (.int p1), .val (.int (p1 + p2)), .val (.int ((p1 + p2) + p3)), .val (.int (((p1 + p2) + p3) + p4))] [(.int p2)])) _
                      refine XS.ifYes X0.here hx rfl (pc0 := 98) (pc' := 103) rfl (hb hby d2_98) rfl ((if0 _ _).trans (flt hc98).2.2.2) (by decide) (by decide) ?_
                      show Steps p.tables e below (s₁.setTop (mkF m 103 #[.val (.int p1), .val (.int p2), .val (.int p3), .val (.int p4), .val (.int p5), .val (.int p1), .val (.int (p1 + p2)), .val (.int ((p1 + p2) + p3)), .val (.int (((p1 + p2) + p3) + p4))] [])) _
                      refine XS.iconst X0.here hx rfl (hb hby d2_103) ?_
                      show Steps p.tables e below (s₁.setTop (mkF m 104 #[.val (.int p1), .val (.int p2), .val (.int p3), .val (.int p4), .val (.int p5), .val (.int p1), .val (.int (p1 + p2)), .val (.int ((p1 + p2) + p3)), .val (.int (((p1 + p2) + p3) + p4))] [(.int (0 : Int32))])) _
                      exact retI X0 hx Bd.returns (hb hby d2_104) hr
                    · show Q2 Z p1 p2 p3 p4 p5 h0 n0 _ s₁.heap _
                      rw [e0]
                      have hv : (own_exp p1 p2 p3 p4 p5) = (0 : Int32) := by unfold own_exp; rw [if_pos hc22, if_neg hc32, if_neg hc38, if_pos hc54, if_neg hc64, if_neg hc70, if_neg hc86, if_neg hc92, if_neg hc98]
                      exact ⟨by rw [hv], N0, rfl⟩
        · have c33 : ∀ t, Steps p.tables e below (s₁.setTop (mkF m 70 #[.val (.int p1), .val (.int p2), .val (.int p3), .val (.int p4), .val (.int p5), .val (.int p1), .val (.int (p1 + p2)), .val (.int ((p1 + p2) + p3)), .val (.int (((p1 + p2) + p3) + p4))] [(.int p4)])) t → Steps p.tables e below (s₁.setTop (entryFrame m #[(.int p1), (.int p2), (.int p3), (.int p4), (.int p5)] 9)) t := fun t kt => by
            refine c23 _ ?_
            show Steps p.tables e below (s₁.setTop (mkF m 54 #[.val (.int p1), .val (.int p2), .val (.int p3), .val (.int p4), .val (.int p5), .val (.int p1), .val (.int (p1 + p2)), .val (.int ((p1 + p2) + p3)), .val (.int (((p1 + p2) + p3) + p4))] [(.int p3)])) _
            refine XS.ifYes X0.here hx rfl (pc0 := 54) (pc' := 69) rfl (hb hby d2_54) rfl ((if0 _ _).trans (flt hc54).2.2.2) (by decide) (by decide) ?_
            show Steps p.tables e below (s₁.setTop (mkF m 69 #[.val (.int p1), .val (.int p2), .val (.int p3), .val (.int p4), .val (.int p5), .val (.int p1), .val (.int (p1 + p2)), .val (.int ((p1 + p2) + p3)), .val (.int (((p1 + p2) + p3) + p4))] [])) _
            refine XS.iloadN X0.here hx rfl (hb hby d2_69) rfl ?_
            exact kt
          by_cases hc70 : (0 : Int32) < p4
          · have c34 : ∀ t, Steps p.tables e below (s₁.setTop (mkF m 80 #[.val (.int p1), .val (.int p2), .val (.int p3), .val (.int p4), .val (.int p5), .val (.int p1), .val (.int (p1 + p2)), .val (.int ((p1 + p2) + p3)), .val (.int (((p1 + p2) + p3) + p4))] [(.int ((16 : Int32) * (((p1 + p2) + p3) + p4))), (.int p5)])) t → Steps p.tables e below (s₁.setTop (entryFrame m #[(.int p1), (.int p2), (.int p3), (.int p4), (.int p5)] 9)) t := fun t kt => by
              refine c33 _ ?_
              show Steps p.tables e below (s₁.setTop (mkF m 70 #[.val (.int p1), .val (.int p2), .val (.int p3), .val (.int p4), .val (.int p5), .val (.int p1), .val (.int (p1 + p2)), .val (.int ((p1 + p2) + p3)), .val (.int (((p1 + p2) + p3) + p4))] [(.int p4)])) _
              refine XS.ifNo X0.here hx rfl (hb hby d2_70) rfl ((if0 _ _).trans (tlt hc70).2.2.2) ?_
              show Steps p.tables e below (s₁.setTop (mkF m 73 #[.val (.int p1), .val (.int p2), .val (.int p3), .val (.int p4), .val (.int p5), .val (.int p1), .val (.int (p1 + p2)), .val (.int ((p1 + p2) + p3)), .val (.int (((p1 + p2) + p3) + p4))] [])) _
              refine XS.iload X0.here hx rfl (hb hby d2_73) rfl ?_
              show Steps p.tables e below (s₁.setTop (mkF m 75 #[.val (.int p1), .val (.int p2), .val (.int p3), .val (.int p4), .val (.int p5), .val (.int p1), .val (.int (p1 + p2)), .val (.int ((p1 + p2) + p3)), .val (.int (((p1 + p2) + p3) + p4))] [(.int p5)])) _
              refine XS.bipush X0.here hx rfl (hb hby d2_75) ?_
              show Steps p.tables e below (s₁.setTop (mkF m 77 #[.val (.int p1), .val (.int p2), .val (.int p3), .val (.int p4), .val (.int p5), .val (.int p1), .val (.int (p1 + p2)), .val (.int ((p1 + p2) + p3)), .val (.int (((p1 + p2) + p3) + p4))] [(.int (16 : Int32)), (.int p5)])) _
              refine XS.iload X0.here hx rfl (hb hby d2_77) rfl ?_
              show Steps p.tables e below (s₁.setTop (mkF m 79 #[.val (.int p1), .val (.int p2), .val (.int p3), .val (.int p4), .val (.int p5), .val (.int p1), .val (.int (p1 + p2)), .val (.int ((p1 + p2) + p3)), .val (.int (((p1 + p2) + p3) + p4))] [(.int (((p1 + p2) + p3) + p4)), (.int (16 : Int32)), (.int p5)])) _
              refine XS.imul X0.here hx rfl (hb hby d2_79) rfl ?_
              exact kt
            by_cases hc80 : p5 < ((16 : Int32) * (((p1 + p2) + p3) + p4))
            · obtain ⟨fs, hr, hrun, hended, hW, hsame⟩ := X0.leave (v := some (.int (3 : Int32))) (fun h => by rw [Bd.returns] at h; cases h)
              refine ⟨_, _, c34 _ ?_, hrun, hended, _, _, rfl, ?_, ⟨_, rfl⟩, hW, hsame.mono (by decide) (by decide)⟩
              · show Steps p.tables e below (s₁.setTop (mkF m 80 #[.val (.int p1), .val (.int p2), .val (.int p3), .val (.int p4), .val (.int p5), .val (.int p1), .val (.int (p1 + p2)), .val (.int ((p1 + p2) + p3)), .val (.int (((p1 + p2) + p3) + p4))] [(.int ((16 : Int32) * (((p1 + p2) + p3) + p4))), (.int p5)])) _
                refine XS.icmpNo X0.here hx rfl (hb hby d2_80) rfl (tlt hc80).2.1 ?_
                show Steps p.tables e below (s₁.setTop (mkF m 83 #[.val (.int p1), .val (.int p2), .val (.int p3), .val (.int p4), .val (.int p5), .val (.int p1), .val (.int (p1 + p2)), .val (.int ((p1 + p2) + p3)), .val (.int (((p1 + p2) + p3) + p4))] [])) _
                refine XS.iconst X0.here hx rfl (hb hby d2_83) ?_
                show Steps p.tables e below (s₁.setTop (mkF m 84 #[.val (.int p1), .val (.int p2), .val (.int p3), .val (.int p4), .val (.int p5), .val (.int p1), .val (.int (p1 + p2)), .val (.int ((p1 + p2) + p3)), .val (.int (((p1 + p2) + p3) + p4))] [(.int (3 : Int32))])) _
                exact retI X0 hx Bd.returns (hb hby d2_84) hr
              · show Q2 Z p1 p2 p3 p4 p5 h0 n0 _ s₁.heap _
                rw [e0]
                have hv : (own_exp p1 p2 p3 p4 p5) = (3 : Int32) := by unfold own_exp; rw [if_pos hc22, if_neg hc32, if_neg hc38, if_neg hc54, if_pos hc70, if_pos hc80]
                exact ⟨by rw [hv], N0, rfl⟩
            · have c35 : ∀ t, Steps p.tables e below (s₁.setTop (mkF m 86 #[.val (.int p1), .val (.int p2), .val (.int p3), .val (.int p4), .val (.int p5), .val (.int p1), .val (.int (p1 + p2)), .val (.int ((p1 + p2) + p3)), .val (.int (((p1 + p2) + p3) + p4))] [(.int p4)])) t → Steps p.tables e below (s₁.setTop (entryFrame m #[(.int p1), (.int p2), (.int p3), (.int p4), (.int p5)] 9)) t := fun t kt => by
                refine c34 _ ?_
                show Steps p.tables e below (s₁.setTop (mkF m 80 #[.val (.int p1), .val (.int p2), .val (.int p3), .val (.int p4), .val (.int p5), .val (.int p1), .val (.int (p1 + p2)), .val (.int ((p1 + p2) + p3)), .val (.int (((p1 + p2) + p3) + p4))] [(.int ((16 : Int32) * (((p1 + p2) + p3) + p4))), (.int p5)])) _
                refine XS.icmpYes X0.here hx rfl (pc0 := 80) (pc' := 85) rfl (hb hby d2_80) rfl (flt hc80).2.1 (by decide) (by decide) ?_
                show Steps p.tables e below (s₁.setTop (mkF m 85 #[.val (.int p1), .val (.int p2), .val (.int p3), .val (.int p4), .val (.int p5), .val (.int p1), .val (.int (p1 + p2)), .val (.int ((p1 + p2) + p3)), .val (.int (((p1 + p2) + p3) + p4))] [])) _
                refine XS.iloadN X0.here hx rfl (hb hby d2_85) rfl ?_
                exact kt
              by_cases hc86 : (0 : Int32) < p4
              · obtain ⟨fs, hr, hrun, hended, hW, hsame⟩ := X0.leave (v := some (.int (3 : Int32))) (fun h => by rw [Bd.returns] at h; cases h)
                refine ⟨_, _, c35 _ ?_, hrun, hended, _, _, rfl, ?_, ⟨_, rfl⟩, hW, hsame.mono (by decide) (by decide)⟩
                · show Steps p.tables e below (s₁.setTop (mkF m 86 #[.val (.int p1), .val (.int p2), .val (.int p3), .val (.int p4), .val (.int p5), .val (.int p1), .val (.int (p1 + p2)), .val (.int ((p1 + p2) + p3)), .val (.int (((p1 + p2) + p3) + p4))] [(.int p4)])) _
                  refine XS.ifNo X0.here hx rfl (hb hby d2_86) rfl ((if0 _ _).trans (tlt hc86).2.2.2) ?_
                  show Steps p.tables e below (s₁.setTop (mkF m 89 #[.val (.int p1), .val (.int p2), .val (.int p3), .val (.int p4), .val (.int p5), .val (.int p1), .val (.int (p1 + p2)), .val (.int ((p1 + p2) + p3)), .val (.int (((p1 + p2) + p3) + p4))] [])) _
                  refine XS.iconst X0.here hx rfl (hb hby d2_89) ?_
                  show Steps p.tables e below (s₁.setTop (mkF m 90 #[.val (.int p1), .val (.int p2), .val (.int p3), .val (.int p4), .val (.int p5), .val (.int p1), .val (.int (p1 + p2)), .val (.int ((p1 + p2) + p3)), .val (.int (((p1 + p2) + p3) + p4))] [(.int (3 : Int32))])) _
                  exact retI X0 hx Bd.returns (hb hby d2_90) hr
                · show Q2 Z p1 p2 p3 p4 p5 h0 n0 _ s₁.heap _
                  rw [e0]
                  have hv : (own_exp p1 p2 p3 p4 p5) = (3 : Int32) := by unfold own_exp; rw [if_pos hc22, if_neg hc32, if_neg hc38, if_neg hc54, if_pos hc70, if_neg hc80, if_pos hc86]
                  exact ⟨by rw [hv], N0, rfl⟩
              · have c36 : ∀ t, Steps p.tables e below (s₁.setTop (mkF m 92 #[.val (.int p1), .val (.int p2), .val (.int p3), .val (.int p4), .val (.int p5), .val (.int p1), .val (.int (p1 + p2)), .val (.int ((p1 + p2) + p3)), .val (.int (((p1 + p2) + p3) + p4))] [(.int p3)])) t → Steps p.tables e below (s₁.setTop (entryFrame m #[(.int p1), (.int p2), (.int p3), (.int p4), (.int p5)] 9)) t := fun t kt => by
                  refine c35 _ ?_
                  show Steps p.tables e below (s₁.setTop (mkF m 86 #[.val (.int p1), .val (.int p2), .val (.int p3), .val (.int p4), .val (.int p5), .val (.int p1), .val (.int (p1 + p2)), .val (.int ((p1 + p2) + p3)), .val (.int (((p1 + p2) + p3) + p4))] [(.int p4)])) _
                  refine XS.ifYes X0.here hx rfl (pc0 := 86) (pc' := 91) rfl (hb hby d2_86) rfl ((if0 _ _).trans (flt hc86).2.2.2) (by decide) (by decide) ?_
                  show Steps p.tables e below (s₁.setTop (mkF m 91 #[.val (.int p1), .val (.int p2), .val (.int p3), .val (.int p4), .val (.int p5), .val (.int p1), .val (.int (p1 + p2)), .val (.int ((p1 + p2) + p3)), .val (.int (((p1 + p2) + p3) + p4))] [])) _
                  refine XS.iloadN X0.here hx rfl (hb hby d2_91) rfl ?_
                  exact kt
                by_cases hc92 : (0 : Int32) < p3
                · obtain ⟨fs, hr, hrun, hended, hW, hsame⟩ := X0.leave (v := some (.int (2 : Int32))) (fun h => by rw [Bd.returns] at h; cases h)
                  refine ⟨_, _, c36 _ ?_, hrun, hended, _, _, rfl, ?_, ⟨_, rfl⟩, hW, hsame.mono (by decide) (by decide)⟩
                  · show Steps p.tables e below (s₁.setTop (mkF m 92 #[.val (.int p1), .val (.int p2), .val (.int p3), .val (.int p4), .val (.int p5), .val (.int p1), .val (.int (p1 + p2)), .val (.int ((p1 + p2) + p3)), .val (.int (((p1 + p2) + p3) + p4))] [(.int p3)])) _
                    refine XS.ifNo X0.here hx rfl (hb hby d2_92) rfl ((if0 _ _).trans (tlt hc92).2.2.2) ?_
                    show Steps p.tables e below (s₁.setTop (mkF m 95 #[.val (.int p1), .val (.int p2), .val (.int p3), .val (.int p4), .val (.int p5), .val (.int p1), .val (.int (p1 + p2)), .val (.int ((p1 + p2) + p3)), .val (.int (((p1 + p2) + p3) + p4))] [])) _
                    refine XS.iconst X0.here hx rfl (hb hby d2_95) ?_
                    show Steps p.tables e below (s₁.setTop (mkF m 96 #[.val (.int p1), .val (.int p2), .val (.int p3), .val (.int p4), .val (.int p5), .val (.int p1), .val (.int (p1 + p2)), .val (.int ((p1 + p2) + p3)), .val (.int (((p1 + p2) + p3) + p4))] [(.int (2 : Int32))])) _
                    exact retI X0 hx Bd.returns (hb hby d2_96) hr
                  · show Q2 Z p1 p2 p3 p4 p5 h0 n0 _ s₁.heap _
                    rw [e0]
                    have hv : (own_exp p1 p2 p3 p4 p5) = (2 : Int32) := by unfold own_exp; rw [if_pos hc22, if_neg hc32, if_neg hc38, if_neg hc54, if_pos hc70, if_neg hc80, if_neg hc86, if_pos hc92]
                    exact ⟨by rw [hv], N0, rfl⟩
                · have c37 : ∀ t, Steps p.tables e below (s₁.setTop (mkF m 98 #[.val (.int p1), .val (.int p2), .val (.int p3), .val (.int p4), .val (.int p5), .val (.int p1), .val (.int (p1 + p2)), .val (.int ((p1 + p2) + p3)), .val (.int (((p1 + p2) + p3) + p4))] [(.int p2)])) t → Steps p.tables e below (s₁.setTop (entryFrame m #[(.int p1), (.int p2), (.int p3), (.int p4), (.int p5)] 9)) t := fun t kt => by
                    refine c36 _ ?_
                    show Steps p.tables e below (s₁.setTop (mkF m 92 #[.val (.int p1), .val (.int p2), .val (.int p3), .val (.int p4), .val (.int p5), .val (.int p1), .val (.int (p1 + p2)), .val (.int ((p1 + p2) + p3)), .val (.int (((p1 + p2) + p3) + p4))] [(.int p3)])) _
                    refine XS.ifYes X0.here hx rfl (pc0 := 92) (pc' := 97) rfl (hb hby d2_92) rfl ((if0 _ _).trans (flt hc92).2.2.2) (by decide) (by decide) ?_
                    show Steps p.tables e below (s₁.setTop (mkF m 97 #[.val (.int p1), .val (.int p2), .val (.int p3), .val (.int p4), .val (.int p5), .val (.int p1), .val (.int (p1 + p2)), .val (.int ((p1 + p2) + p3)), .val (.int (((p1 + p2) + p3) + p4))] [])) _
                    refine XS.iloadN X0.here hx rfl (hb hby d2_97) rfl ?_
                    exact kt
                  by_cases hc98 : (0 : Int32) < p2
                  · obtain ⟨fs, hr, hrun, hended, hW, hsame⟩ := X0.leave (v := some (.int (1 : Int32))) (fun h => by rw [Bd.returns] at h; cases h)
                    refine ⟨_, _, c37 _ ?_, hrun, hended, _, _, rfl, ?_, ⟨_, rfl⟩, hW, hsame.mono (by decide) (by decide)⟩
                    · show Steps p.tables e below (s₁.setTop (mkF m 98 #[.val (.int p1), .val (.int p2), .val (.int p3), .val (.int p4), .val (.int p5), .val (.int p1), .val (.int (p1 + p2)), .val (.int ((p1 + p2) + p3)), .val (.int (((p1 + p2) + p3) + p4))] [(.int p2)])) _
                      refine XS.ifNo X0.here hx rfl (hb hby d2_98) rfl ((if0 _ _).trans (tlt hc98).2.2.2) ?_
                      show Steps p.tables e below (s₁.setTop (mkF m 101 #[.val (.int p1), .val (.int p2), .val (.int p3), .val (.int p4), .val (.int p5), .val (.int p1), .val (.int (p1 + p2)), .val (.int ((p1 + p2) + p3)), .val (.int (((p1 + p2) + p3) + p4))] [])) _
                      refine XS.iconst X0.here hx rfl (hb hby d2_101) ?_
                      show Steps p.tables e below (s₁.setTop (mkF m 102 #[.val (.int p1), .val (.int p2), .val (.int p3), .val (.int p4), .val (.int p5), .val (.int p1), .val (.int (p1 + p2)), .val (.int ((p1 + p2) + p3)), .val (.int (((p1 + p2) + p3) + p4))] [(.int (1 : Int32))])) _
                      exact retI X0 hx Bd.returns (hb hby d2_102) hr
                    · show Q2 Z p1 p2 p3 p4 p5 h0 n0 _ s₁.heap _
                      rw [e0]
                      have hv : (own_exp p1 p2 p3 p4 p5) = (1 : Int32) := by unfold own_exp; rw [if_pos hc22, if_neg hc32, if_neg hc38, if_neg hc54, if_pos hc70, if_neg hc80, if_neg hc86, if_neg hc92, if_pos hc98]
                      exact ⟨by rw [hv], N0, rfl⟩
                  · obtain ⟨fs, hr, hrun, hended, hW, hsame⟩ := X0.leave (v := some (.int (0 : Int32))) (fun h => by rw [Bd.returns] at h; cases h)
                    refine ⟨_, _, c37 _ ?_, hrun, hended, _, _, rfl, ?_, ⟨_, rfl⟩, hW, hsame.mono (by decide) (by decide)⟩
                    · show Steps p.tables e below (s₁.setTop (mkF m 98 #[.val (.int p1), .val (.int p2), .val (.int p3), .val (.int p4), .val (.int p5), .val (.int p1), .val (.int (p1 + p2)), .val (.int ((p1 + p2) + p3)), .val (.int (((p1 + p2) + p3) + p4))] [(.int p2)])) _
                      refine XS.ifYes X0.here hx rfl (pc0 := 98) (pc' := 103) rfl (hb hby d2_98) rfl ((if0 _ _).trans (flt hc98).2.2.2) (by decide) (by decide) ?_
                      show Steps p.tables e below (s₁.setTop (mkF m 103 #[.val (.int p1), .val (.int p2), .val (.int p3), .val (.int p4), .val (.int p5), .val (.int p1), .val (.int (p1 + p2)), .val (.int ((p1 + p2) + p3)), .val (.int (((p1 + p2) + p3) + p4))] [])) _
                      refine XS.iconst X0.here hx rfl (hb hby d2_103) ?_
                      show Steps p.tables e below (s₁.setTop (mkF m 104 #[.val (.int p1), .val (.int p2), .val (.int p3), .val (.int p4), .val (.int p5), .val (.int p1), .val (.int (p1 + p2)), .val (.int ((p1 + p2) + p3)), .val (.int (((p1 + p2) + p3) + p4))] [(.int (0 : Int32))])) _
                      exact retI X0 hx Bd.returns (hb hby d2_104) hr
                    · show Q2 Z p1 p2 p3 p4 p5 h0 n0 _ s₁.heap _
                      rw [e0]
                      have hv : (own_exp p1 p2 p3 p4 p5) = (0 : Int32) := by unfold own_exp; rw [if_pos hc22, if_neg hc32, if_neg hc38, if_neg hc54, if_pos hc70, if_neg hc80, if_neg hc86, if_neg hc92, if_neg hc98]
                      exact ⟨by rw [hv], N0, rfl⟩
          · have c38 : ∀ t, Steps p.tables e below (s₁.setTop (mkF m 86 #[.val (.int p1), .val (.int p2), .val (.int p3), .val (.int p4), .val (.int p5), .val (.int p1), .val (.int (p1 + p2)), .val (.int ((p1 + p2) + p3)), .val (.int (((p1 + p2) + p3) + p4))] [(.int p4)])) t → Steps p.tables e below (s₁.setTop (entryFrame m #[(.int p1), (.int p2), (.int p3), (.int p4), (.int p5)] 9)) t := fun t kt => by
              refine c33 _ ?_
              show Steps p.tables e below (s₁.setTop (mkF m 70 #[.val (.int p1), .val (.int p2), .val (.int p3), .val (.int p4), .val (.int p5), .val (.int p1), .val (.int (p1 + p2)), .val (.int ((p1 + p2) + p3)), .val (.int (((p1 + p2) + p3) + p4))] [(.int p4)])) _
              refine XS.ifYes X0.here hx rfl (pc0 := 70) (pc' := 85) rfl (hb hby d2_70) rfl ((if0 _ _).trans (flt hc70).2.2.2) (by decide) (by decide) ?_
              show Steps p.tables e below (s₁.setTop (mkF m 85 #[.val (.int p1), .val (.int p2), .val (.int p3), .val (.int p4), .val (.int p5), .val (.int p1), .val (.int (p1 + p2)), .val (.int ((p1 + p2) + p3)), .val (.int (((p1 + p2) + p3) + p4))] [])) _
              refine XS.iloadN X0.here hx rfl (hb hby d2_85) rfl ?_
              exact kt
            by_cases hc86 : (0 : Int32) < p4
            · obtain ⟨fs, hr, hrun, hended, hW, hsame⟩ := X0.leave (v := some (.int (3 : Int32))) (fun h => by rw [Bd.returns] at h; cases h)
              refine ⟨_, _, c38 _ ?_, hrun, hended, _, _, rfl, ?_, ⟨_, rfl⟩, hW, hsame.mono (by decide) (by decide)⟩
              · show Steps p.tables e below (s₁.setTop (mkF m 86 #[.val (.int p1), .val (.int p2), .val (.int p3), .val (.int p4), .val (.int p5), .val (.int p1), .val (.int (p1 + p2)), .val (.int ((p1 + p2) + p3)), .val (.int (((p1 + p2) + p3) + p4))] [(.int p4)])) _
                refine XS.ifNo X0.here hx rfl (hb hby d2_86) rfl ((if0 _ _).trans (tlt hc86).2.2.2) ?_
                show Steps p.tables e below (s₁.setTop (mkF m 89 #[.val (.int p1), .val (.int p2), .val (.int p3), .val (.int p4), .val (.int p5), .val (.int p1), .val (.int (p1 + p2)), .val (.int ((p1 + p2) + p3)), .val (.int (((p1 + p2) + p3) + p4))] [])) _
                refine XS.iconst X0.here hx rfl (hb hby d2_89) ?_
                show Steps p.tables e below (s₁.setTop (mkF m 90 #[.val (.int p1), .val (.int p2), .val (.int p3), .val (.int p4), .val (.int p5), .val (.int p1), .val (.int (p1 + p2)), .val (.int ((p1 + p2) + p3)), .val (.int (((p1 + p2) + p3) + p4))] [(.int (3 : Int32))])) _
                exact retI X0 hx Bd.returns (hb hby d2_90) hr
              · show Q2 Z p1 p2 p3 p4 p5 h0 n0 _ s₁.heap _
                rw [e0]
                have hv : (own_exp p1 p2 p3 p4 p5) = (3 : Int32) := by unfold own_exp; rw [if_pos hc22, if_neg hc32, if_neg hc38, if_neg hc54, if_neg hc70, if_pos hc86]
                exact ⟨by rw [hv], N0, rfl⟩
            · have c39 : ∀ t, Steps p.tables e below (s₁.setTop (mkF m 92 #[.val (.int p1), .val (.int p2), .val (.int p3), .val (.int p4), .val (.int p5), .val (.int p1), .val (.int (p1 + p2)), .val (.int ((p1 + p2) + p3)), .val (.int (((p1 + p2) + p3) + p4))] [(.int p3)])) t → Steps p.tables e below (s₁.setTop (entryFrame m #[(.int p1), (.int p2), (.int p3), (.int p4), (.int p5)] 9)) t := fun t kt => by
                refine c38 _ ?_
                show Steps p.tables e below (s₁.setTop (mkF m 86 #[.val (.int p1), .val (.int p2), .val (.int p3), .val (.int p4), .val (.int p5), .val (.int p1), .val (.int (p1 + p2)), .val (.int ((p1 + p2) + p3)), .val (.int (((p1 + p2) + p3) + p4))] [(.int p4)])) _
                refine XS.ifYes X0.here hx rfl (pc0 := 86) (pc' := 91) rfl (hb hby d2_86) rfl ((if0 _ _).trans (flt hc86).2.2.2) (by decide) (by decide) ?_
                show Steps p.tables e below (s₁.setTop (mkF m 91 #[.val (.int p1), .val (.int p2), .val (.int p3), .val (.int p4), .val (.int p5), .val (.int p1), .val (.int (p1 + p2)), .val (.int ((p1 + p2) + p3)), .val (.int (((p1 + p2) + p3) + p4))] [])) _
                refine XS.iloadN X0.here hx rfl (hb hby d2_91) rfl ?_
                exact kt
              by_cases hc92 : (0 : Int32) < p3
              · obtain ⟨fs, hr, hrun, hended, hW, hsame⟩ := X0.leave (v := some (.int (2 : Int32))) (fun h => by rw [Bd.returns] at h; cases h)
                refine ⟨_, _, c39 _ ?_, hrun, hended, _, _, rfl, ?_, ⟨_, rfl⟩, hW, hsame.mono (by decide) (by decide)⟩
                · show Steps p.tables e below (s₁.setTop (mkF m 92 #[.val (.int p1), .val (.int p2), .val (.int p3), .val (.int p4), .val (.int p5), .val (.int p1), .val (.int (p1 + p2)), .val (.int ((p1 + p2) + p3)), .val (.int (((p1 + p2) + p3) + p4))] [(.int p3)])) _
                  refine XS.ifNo X0.here hx rfl (hb hby d2_92) rfl ((if0 _ _).trans (tlt hc92).2.2.2) ?_
                  show Steps p.tables e below (s₁.setTop (mkF m 95 #[.val (.int p1), .val (.int p2), .val (.int p3), .val (.int p4), .val (.int p5), .val (.int p1), .val (.int (p1 + p2)), .val (.int ((p1 + p2) + p3)), .val (.int (((p1 + p2) + p3) + p4))] [])) _
                  refine XS.iconst X0.here hx rfl (hb hby d2_95) ?_
                  show Steps p.tables e below (s₁.setTop (mkF m 96 #[.val (.int p1), .val (.int p2), .val (.int p3), .val (.int p4), .val (.int p5), .val (.int p1), .val (.int (p1 + p2)), .val (.int ((p1 + p2) + p3)), .val (.int (((p1 + p2) + p3) + p4))] [(.int (2 : Int32))])) _
                  exact retI X0 hx Bd.returns (hb hby d2_96) hr
                · show Q2 Z p1 p2 p3 p4 p5 h0 n0 _ s₁.heap _
                  rw [e0]
                  have hv : (own_exp p1 p2 p3 p4 p5) = (2 : Int32) := by unfold own_exp; rw [if_pos hc22, if_neg hc32, if_neg hc38, if_neg hc54, if_neg hc70, if_neg hc86, if_pos hc92]
                  exact ⟨by rw [hv], N0, rfl⟩
              · have c40 : ∀ t, Steps p.tables e below (s₁.setTop (mkF m 98 #[.val (.int p1), .val (.int p2), .val (.int p3), .val (.int p4), .val (.int p5), .val (.int p1), .val (.int (p1 + p2)), .val (.int ((p1 + p2) + p3)), .val (.int (((p1 + p2) + p3) + p4))] [(.int p2)])) t → Steps p.tables e below (s₁.setTop (entryFrame m #[(.int p1), (.int p2), (.int p3), (.int p4), (.int p5)] 9)) t := fun t kt => by
                  refine c39 _ ?_
                  show Steps p.tables e below (s₁.setTop (mkF m 92 #[.val (.int p1), .val (.int p2), .val (.int p3), .val (.int p4), .val (.int p5), .val (.int p1), .val (.int (p1 + p2)), .val (.int ((p1 + p2) + p3)), .val (.int (((p1 + p2) + p3) + p4))] [(.int p3)])) _
                  refine XS.ifYes X0.here hx rfl (pc0 := 92) (pc' := 97) rfl (hb hby d2_92) rfl ((if0 _ _).trans (flt hc92).2.2.2) (by decide) (by decide) ?_
                  show Steps p.tables e below (s₁.setTop (mkF m 97 #[.val (.int p1), .val (.int p2), .val (.int p3), .val (.int p4), .val (.int p5), .val (.int p1), .val (.int (p1 + p2)), .val (.int ((p1 + p2) + p3)), .val (.int (((p1 + p2) + p3) + p4))] [])) _
                  refine XS.iloadN X0.here hx rfl (hb hby d2_97) rfl ?_
                  exact kt
                by_cases hc98 : (0 : Int32) < p2
                · obtain ⟨fs, hr, hrun, hended, hW, hsame⟩ := X0.leave (v := some (.int (1 : Int32))) (fun h => by rw [Bd.returns] at h; cases h)
                  refine ⟨_, _, c40 _ ?_, hrun, hended, _, _, rfl, ?_, ⟨_, rfl⟩, hW, hsame.mono (by decide) (by decide)⟩
                  · show Steps p.tables e below (s₁.setTop (mkF m 98 #[.val (.int p1), .val (.int p2), .val (.int p3), .val (.int p4), .val (.int p5), .val (.int p1), .val (.int (p1 + p2)), .val (.int ((p1 + p2) + p3)), .val (.int (((p1 + p2) + p3) + p4))] [(.int p2)])) _
                    refine XS.ifNo X0.here hx rfl (hb hby d2_98) rfl ((if0 _ _).trans (tlt hc98).2.2.2) ?_
                    show Steps p.tables e below (s₁.setTop (mkF m 101 #[.val (.int p1), .val (.int p2), .val (.int p3), .val (.int p4), .val (.int p5), .val (.int p1), .val (.int (p1 + p2)), .val (.int ((p1 + p2) + p3)), .val (.int (((p1 + p2) + p3) + p4))] [])) _
                    refine XS.iconst X0.here hx rfl (hb hby d2_101) ?_
                    show Steps p.tables e below (s₁.setTop (mkF m 102 #[.val (.int p1), .val (.int p2), .val (.int p3), .val (.int p4), .val (.int p5), .val (.int p1), .val (.int (p1 + p2)), .val (.int ((p1 + p2) + p3)), .val (.int (((p1 + p2) + p3) + p4))] [(.int (1 : Int32))])) _
                    exact retI X0 hx Bd.returns (hb hby d2_102) hr
                  · show Q2 Z p1 p2 p3 p4 p5 h0 n0 _ s₁.heap _
                    rw [e0]
                    have hv : (own_exp p1 p2 p3 p4 p5) = (1 : Int32) := by unfold own_exp; rw [if_pos hc22, if_neg hc32, if_neg hc38, if_neg hc54, if_neg hc70, if_neg hc86, if_neg hc92, if_pos hc98]
                    exact ⟨by rw [hv], N0, rfl⟩
                · obtain ⟨fs, hr, hrun, hended, hW, hsame⟩ := X0.leave (v := some (.int (0 : Int32))) (fun h => by rw [Bd.returns] at h; cases h)
                  refine ⟨_, _, c40 _ ?_, hrun, hended, _, _, rfl, ?_, ⟨_, rfl⟩, hW, hsame.mono (by decide) (by decide)⟩
                  · show Steps p.tables e below (s₁.setTop (mkF m 98 #[.val (.int p1), .val (.int p2), .val (.int p3), .val (.int p4), .val (.int p5), .val (.int p1), .val (.int (p1 + p2)), .val (.int ((p1 + p2) + p3)), .val (.int (((p1 + p2) + p3) + p4))] [(.int p2)])) _
                    refine XS.ifYes X0.here hx rfl (pc0 := 98) (pc' := 103) rfl (hb hby d2_98) rfl ((if0 _ _).trans (flt hc98).2.2.2) (by decide) (by decide) ?_
                    show Steps p.tables e below (s₁.setTop (mkF m 103 #[.val (.int p1), .val (.int p2), .val (.int p3), .val (.int p4), .val (.int p5), .val (.int p1), .val (.int (p1 + p2)), .val (.int ((p1 + p2) + p3)), .val (.int (((p1 + p2) + p3) + p4))] [])) _
                    refine XS.iconst X0.here hx rfl (hb hby d2_103) ?_
                    show Steps p.tables e below (s₁.setTop (mkF m 104 #[.val (.int p1), .val (.int p2), .val (.int p3), .val (.int p4), .val (.int p5), .val (.int p1), .val (.int (p1 + p2)), .val (.int ((p1 + p2) + p3)), .val (.int (((p1 + p2) + p3) + p4))] [(.int (0 : Int32))])) _
                    exact retI X0 hx Bd.returns (hb hby d2_104) hr
                  · show Q2 Z p1 p2 p3 p4 p5 h0 n0 _ s₁.heap _
                    rw [e0]
                    have hv : (own_exp p1 p2 p3 p4 p5) = (0 : Int32) := by unfold own_exp; rw [if_pos hc22, if_neg hc32, if_neg hc38, if_neg hc54, if_neg hc70, if_neg hc86, if_neg hc92, if_neg hc98]
                    exact ⟨by rw [hv], N0, rfl⟩
  · have c41 : ∀ t, Steps p.tables e below (s₁.setTop (mkF m 38 #[.val (.int p1), .val (.int p2), .val (.int p3), .val (.int p4), .val (.int p5), .val (.int p1), .val (.int (p1 + p2)), .val (.int ((p1 + p2) + p3)), .val (.int (((p1 + p2) + p3) + p4))] [(.int p2)])) t → Steps p.tables e below (s₁.setTop (entryFrame m #[(.int p1), (.int p2), (.int p3), (.int p4), (.int p5)] 9)) t := fun t kt => by
      refine c1 _ ?_
      show Steps p.tables e below (s₁.setTop (mkF m 22 #[.val (.int p1), .val (.int p2), .val (.int p3), .val (.int p4), .val (.int p5), .val (.int p1), .val (.int (p1 + p2)), .val (.int ((p1 + p2) + p3)), .val (.int (((p1 + p2) + p3) + p4))] [(.int p1)])) _
      refine XS.ifYes X0.here hx rfl (pc0 := 22) (pc' := 37) rfl (hb hby d2_22) rfl ((if0 _ _).trans (flt hc22).2.2.2) (by decide) (by decide) ?_
      show Steps p.tables e below (s₁.setTop (mkF m 37 #[.val (.int p1), .val (.int p2), .val (.int p3), .val (.int p4), .val (.int p5), .val (.int p1), .val (.int (p1 + p2)), .val (.int ((p1 + p2) + p3)), .val (.int (((p1 + p2) + p3) + p4))] [])) _
      refine XS.iloadN X0.here hx rfl (hb hby d2_37) rfl ?_
      exact kt
    by_cases hc38 : (0 : Int32) < p2
    · have c42 : ∀ t, Steps p.tables e below (s₁.setTop (mkF m 48 #[.val (.int p1), .val (.int p2), .val (.int p3), .val (.int p4), .val (.int p5), .val (.int p1), .val (.int (p1 + p2)), .val (.int ((p1 + p2) + p3)), .val (.int (((p1 + p2) + p3) + p4))] [(.int ((16 : Int32) * (p1 + p2))), (.int p5)])) t → Steps p.tables e below (s₁.setTop (entryFrame m #[(.int p1), (.int p2), (.int p3), (.int p4), (.int p5)] 9)) t := fun t kt => by
        refine c41 _ ?_
        show Steps p.tables e below (s₁.setTop (mkF m 38 #[.val (.int p1), .val (.int p2), .val (.int p3), .val (.int p4), .val (.int p5), .val (.int p1), .val (.int (p1 + p2)), .val (.int ((p1 + p2) + p3)), .val (.int (((p1 + p2) + p3) + p4))] [(.int p2)])) _
        refine XS.ifNo X0.here hx rfl (hb hby d2_38) rfl ((if0 _ _).trans (tlt hc38).2.2.2) ?_
        show Steps p.tables e below (s₁.setTop (mkF m 41 #[.val (.int p1), .val (.int p2), .val (.int p3), .val (.int p4), .val (.int p5), .val (.int p1), .val (.int (p1 + p2)), .val (.int ((p1 + p2) + p3)), .val (.int (((p1 + p2) + p3) + p4))] [])) _
        refine XS.iload X0.here hx rfl (hb hby d2_41) rfl ?_
        show Steps p.tables e below (s₁.setTop (mkF m 43 #[.val (.int p1), .val (.int p2), .val (.int p3), .val (.int p4), .val (.int p5), .val (.int p1), .val (.int (p1 + p2)), .val (.int ((p1 + p2) + p3)), .val (.int (((p1 + p2) + p3) + p4))] [(.int p5)])) _
        refine XS.bipush X0.here hx rfl (hb hby d2_43) ?_
        show Steps p.tables e below (s₁.setTop (mkF m 45 #[.val (.int p1), .val (.int p2), .val (.int p3), .val (.int p4), .val (.int p5), .val (.int p1), .val (.int (p1 + p2)), .val (.int ((p1 + p2) + p3)), .val (.int (((p1 + p2) + p3) + p4))] [(.int (16 : Int32)), (.int p5)])) _
        refine XS.iload X0.here hx rfl (hb hby d2_45) rfl ?_
        show Steps p.tables e below (s₁.setTop (mkF m 47 #[.val (.int p1), .val (.int p2), .val (.int p3), .val (.int p4), .val (.int p5), .val (.int p1), .val (.int (p1 + p2)), .val (.int ((p1 + p2) + p3)), .val (.int (((p1 + p2) + p3) + p4))] [(.int (p1 + p2)), (.int (16 : Int32)), (.int p5)])) _
        refine XS.imul X0.here hx rfl (hb hby d2_47) rfl ?_
        exact kt
      by_cases hc48 : p5 < ((16 : Int32) * (p1 + p2))
      · obtain ⟨fs, hr, hrun, hended, hW, hsame⟩ := X0.leave (v := some (.int (1 : Int32))) (fun h => by rw [Bd.returns] at h; cases h)
        refine ⟨_, _, c42 _ ?_, hrun, hended, _, _, rfl, ?_, ⟨_, rfl⟩, hW, hsame.mono (by decide) (by decide)⟩
        · show Steps p.tables e below (s₁.setTop (mkF m 48 #[.val (.int p1), .val (.int p2), .val (.int p3), .val (.int p4), .val (.int p5), .val (.int p1), .val (.int (p1 + p2)), .val (.int ((p1 + p2) + p3)), .val (.int (((p1 + p2) + p3) + p4))] [(.int ((16 : Int32) * (p1 + p2))), (.int p5)])) _
          refine XS.icmpNo X0.here hx rfl (hb hby d2_48) rfl (tlt hc48).2.1 ?_
          show Steps p.tables e below (s₁.setTop (mkF m 51 #[.val (.int p1), .val (.int p2), .val (.int p3), .val (.int p4), .val (.int p5), .val (.int p1), .val (.int (p1 + p2)), .val (.int ((p1 + p2) + p3)), .val (.int (((p1 + p2) + p3) + p4))] [])) _
          refine XS.iconst X0.here hx rfl (hb hby d2_51) ?_
          show Steps p.tables e below (s₁.setTop (mkF m 52 #[.val (.int p1), .val (.int p2), .val (.int p3), .val (.int p4), .val (.int p5), .val (.int p1), .val (.int (p1 + p2)), .val (.int ((p1 + p2) + p3)), .val (.int (((p1 + p2) + p3) + p4))] [(.int (1 : Int32))])) _
          exact retI X0 hx Bd.returns (hb hby d2_52) hr
        · show Q2 Z p1 p2 p3 p4 p5 h0 n0 _ s₁.heap _
          rw [e0]
          have hv : (own_exp p1 p2 p3 p4 p5) = (1 : Int32) := by unfold own_exp; rw [if_neg hc22, if_pos hc38, if_pos hc48]
          exact ⟨by rw [hv], N0, rfl⟩
      · have c43 : ∀ t, Steps p.tables e below (s₁.setTop (mkF m 54 #[.val (.int p1), .val (.int p2), .val (.int p3), .val (.int p4), .val (.int p5), .val (.int p1), .val (.int (p1 + p2)), .val (.int ((p1 + p2) + p3)), .val (.int (((p1 + p2) + p3) + p4))] [(.int p3)])) t → Steps p.tables e below (s₁.setTop (entryFrame m #[(.int p1), (.int p2), (.int p3), (.int p4), (.int p5)] 9)) t := fun t kt => by
          refine c42 _ ?_
          show Steps p.tables e below (s₁.setTop (mkF m 48 #[.val (.int p1), .val (.int p2), .val (.int p3), .val (.int p4), .val (.int p5), .val (.int p1), .val (.int (p1 + p2)), .val (.int ((p1 + p2) + p3)), .val (.int (((p1 + p2) + p3) + p4))] [(.int ((16 : Int32) * (p1 + p2))), (.int p5)])) _
          refine XS.icmpYes X0.here hx rfl (pc0 := 48) (pc' := 53) rfl (hb hby d2_48) rfl (flt hc48).2.1 (by decide) (by decide) ?_
          show Steps p.tables e below (s₁.setTop (mkF m 53 #[.val (.int p1), .val (.int p2), .val (.int p3), .val (.int p4), .val (.int p5), .val (.int p1), .val (.int (p1 + p2)), .val (.int ((p1 + p2) + p3)), .val (.int (((p1 + p2) + p3) + p4))] [])) _
          refine XS.iloadN X0.here hx rfl (hb hby d2_53) rfl ?_
          exact kt
        by_cases hc54 : (0 : Int32) < p3
        · have c44 : ∀ t, Steps p.tables e below (s₁.setTop (mkF m 64 #[.val (.int p1), .val (.int p2), .val (.int p3), .val (.int p4), .val (.int p5), .val (.int p1), .val (.int (p1 + p2)), .val (.int ((p1 + p2) + p3)), .val (.int (((p1 + p2) + p3) + p4))] [(.int ((16 : Int32) * ((p1 + p2) + p3))), (.int p5)])) t → Steps p.tables e below (s₁.setTop (entryFrame m #[(.int p1), (.int p2), (.int p3), (.int p4), (.int p5)] 9)) t := fun t kt => by
            refine c43 _ ?_
            show Steps p.tables e below (s₁.setTop (mkF m 54 #[.val (.int p1), .val (.int p2), .val (.int p3), .val (.int p4), .val (.int p5), .val (.int p1), .val (.int (p1 + p2)), .val (.int ((p1 + p2) + p3)), .val (.int (((p1 + p2) + p3) + p4))] [(.int p3)])) _
            refine XS.ifNo X0.here hx rfl (hb hby d2_54) rfl ((if0 _ _).trans (tlt hc54).2.2.2) ?_
            show Steps p.tables e below (s₁.setTop (mkF m 57 #[.val (.int p1), .val (.int p2), .val (.int p3), .val (.int p4), .val (.int p5), .val (.int p1), .val (.int (p1 + p2)), .val (.int ((p1 + p2) + p3)), .val (.int (((p1 + p2) + p3) + p4))] [])) _
            refine XS.iload X0.here hx rfl (hb hby d2_57) rfl ?_
            show Steps p.tables e below (s₁.setTop (mkF m 59 #[.val (.int p1), .val (.int p2), .val (.int p3), .val (.int p4), .val (.int p5), .val (.int p1), .val (.int (p1 + p2)), .val (.int ((p1 + p2) + p3)), .val (.int (((p1 + p2) + p3) + p4))] [(.int p5)])) _
            refine XS.bipush X0.here hx rfl (hb hby d2_59) ?_
            show Steps p.tables e below (s₁.setTop (mkF m 61 #[.val (.int p1), .val (.int p2), .val (.int p3), .val (.int p4), .val (.int p5), .val (.int p1), .val (.int (p1 + p2)), .val (.int ((p1 + p2) + p3)), .val (.int (((p1 + p2) + p3) + p4))] [(.int (16 : Int32)), (.int p5)])) _
            refine XS.iload X0.here hx rfl (hb hby d2_61) rfl ?_
            show Steps p.tables e below (s₁.setTop (mkF m 63 #[.val (.int p1), .val (.int p2), .val (.int p3), .val (.int p4), .val (.int p5), .val (.int p1), .val (.int (p1 + p2)), .val (.int ((p1 + p2) + p3)), .val (.int (((p1 + p2) + p3) + p4))] [(.int ((p1 + p2) + p3)), (.int (16 : Int32)), (.int p5)])) _
            refine XS.imul X0.here hx rfl (hb hby d2_63) rfl ?_
            exact kt
          by_cases hc64 : p5 < ((16 : Int32) * ((p1 + p2) + p3))
          · obtain ⟨fs, hr, hrun, hended, hW, hsame⟩ := X0.leave (v := some (.int (2 : Int32))) (fun h => by rw [Bd.returns] at h; cases h)
            refine ⟨_, _, c44 _ ?_, hrun, hended, _, _, rfl, ?_, ⟨_, rfl⟩, hW, hsame.mono (by decide) (by decide)⟩
            · show Steps p.tables e below (s₁.setTop (mkF m 64 #[.val (.int p1), .val (.int p2), .val (.int p3), .val (.int p4), .val (.int p5), .val (.int p1), .val (.int (p1 + p2)), .val (.int ((p1 + p2) + p3)), .val (.int (((p1 + p2) + p3) + p4))] [(.int ((16 : Int32) * ((p1 + p2) + p3))), (.int p5)])) _
              refine XS.icmpNo X0.here hx rfl (hb hby d2_64) rfl (tlt hc64).2.1 ?_
              show Steps p.tables e below (s₁.setTop (mkF m 67 #[.val (.int p1), .val (.int p2), .val (.int p3), .val (.int p4), .val (.int p5), .val (.int p1), .val (.int (p1 + p2)), .val (.int ((p1 + p2) + p3)), .val (.int (((p1 + p2) + p3) + p4))] [])) _
              refine XS.iconst X0.here hx rfl (hb hby d2_67) ?_
              show Steps p.tables e below (s₁.setTop (mkF m 68 #[.val (.int p1), .val (.int p2), .val (.int p3), .val (.int p4), .val (.int p5), .val (.int p1), .val (.int (p1 + p2)), .val (.int ((p1 + p2) + p3)), .val (.int (((p1 + p2) + p3) + p4))] [(.int (2 : Int32))])) _
              exact retI X0 hx Bd.returns (hb hby d2_68) hr
            · show Q2 Z p1 p2 p3 p4 p5 h0 n0 _ s₁.heap _
              rw [e0]
              have hv : (own_exp p1 p2 p3 p4 p5) = (2 : Int32) := by unfold own_exp; rw [if_neg hc22, if_pos hc38, if_neg hc48, if_pos hc54, if_pos hc64]
              exact ⟨by rw [hv], N0, rfl⟩
          · have c45 : ∀ t, Steps p.tables e below (s₁.setTop (mkF m 70 #[.val (.int p1), .val (.int p2), .val (.int p3), .val (.int p4), .val (.int p5), .val (.int p1), .val (.int (p1 + p2)), .val (.int ((p1 + p2) + p3)), .val (.int (((p1 + p2) + p3) + p4))] [(.int p4)])) t → Steps p.tables e below (s₁.setTop (entryFrame m #[(.int p1), (.int p2), (.int p3), (.int p4), (.int p5)] 9)) t := fun t kt => by
              refine c44 _ ?_
              show Steps p.tables e below (s₁.setTop (mkF m 64 #[.val (.int p1), .val (.int p2), .val (.int p3), .val (.int p4), .val (.int p5), .val (.int p1), .val (.int (p1 + p2)), .val (.int ((p1 + p2) + p3)), .val (.int (((p1 + p2) + p3) + p4))] [(.int ((16 : Int32) * ((p1 + p2) + p3))), (.int p5)])) _
              refine XS.icmpYes X0.here hx rfl (pc0 := 64) (pc' := 69) rfl (hb hby d2_64) rfl (flt hc64).2.1 (by decide) (by decide) ?_
              show Steps p.tables e below (s₁.setTop (mkF m 69 #[.val (.int p1), .val (.int p2), .val (.int p3), .val (.int p4), .val (.int p5), .val (.int p1), .val (.int (p1 + p2)), .val (.int ((p1 + p2) + p3)), .val (.int (((p1 + p2) + p3) + p4))] [])) _
              refine XS.iloadN X0.here hx rfl (hb hby d2_69) rfl ?_
              exact kt
            by_cases hc70 : (0 : Int32) < p4
            · have c46 : ∀ t, Steps p.tables e below (s₁.setTop (mkF m 80 #[.val (.int p1), .val (.int p2), .val (.int p3), .val (.int p4), .val (.int p5), .val (.int p1), .val (.int (p1 + p2)), .val (.int ((p1 + p2) + p3)), .val (.int (((p1 + p2) + p3) + p4))] [(.int ((16 : Int32) * (((p1 + p2) + p3) + p4))), (.int p5)])) t → Steps p.tables e below (s₁.setTop (entryFrame m #[(.int p1), (.int p2), (.int p3), (.int p4), (.int p5)] 9)) t := fun t kt => by
                refine c45 _ ?_
                show Steps p.tables e below (s₁.setTop (mkF m 70 #[.val (.int p1), .val (.int p2), .val (.int p3), .val (.int p4), .val (.int p5), .val (.int p1), .val (.int (p1 + p2)), .val (.int ((p1 + p2) + p3)), .val (.int (((p1 + p2) + p3) + p4))] [(.int p4)])) _
                refine XS.ifNo X0.here hx rfl (hb hby d2_70) rfl ((if0 _ _).trans (tlt hc70).2.2.2) ?_
                show Steps p.tables e below (s₁.setTop (mkF m 73 #[.val (.int p1), .val (.int p2), .val (.int p3), .val (.int p4), .val (.int p5), .val (.int p1), .val (.int (p1 + p2)), .val (.int ((p1 + p2) + p3)), .val (.int (((p1 + p2) + p3) + p4))] [])) _
                refine XS.iload X0.here hx rfl (hb hby d2_73) rfl ?_
                show Steps p.tables e below (s₁.setTop (mkF m 75 #[.val (.int p1), .val (.int p2), .val (.int p3), .val (.int p4), .val (.int p5), .val (.int p1), .val (.int (p1 + p2)), .val (.int ((p1 + p2) + p3)), .val (.int (((p1 + p2) + p3) + p4))] [(.int p5)])) _
                refine XS.bipush X0.here hx rfl (hb hby d2_75) ?_
                show Steps p.tables e below (s₁.setTop (mkF m 77 #[.val (.int p1), .val (.int p2), .val (.int p3), .val (.int p4), .val (.int p5), .val (.int p1), .val (.int (p1 + p2)), .val (.int ((p1 + p2) + p3)), .val (.int (((p1 + p2) + p3) + p4))] [(.int (16 : Int32)), (.int p5)])) _
                refine XS.iload X0.here hx rfl (hb hby d2_77) rfl ?_
                show Steps p.tables e below (s₁.setTop (mkF m 79 #[.val (.int p1), .val (.int p2), .val (.int p3), .val (.int p4), .val (.int p5), .val (.int p1), .val (.int (p1 + p2)), .val (.int ((p1 + p2) + p3)), .val (.int (((p1 + p2) + p3) + p4))] [(.int (((p1 + p2) + p3) + p4)), (.int (16 : Int32)), (.int p5)])) _
                refine XS.imul X0.here hx rfl (hb hby d2_79) rfl ?_
                exact kt
              by_cases hc80 : p5 < ((16 : Int32) * (((p1 + p2) + p3) + p4))
              · obtain ⟨fs, hr, hrun, hended, hW, hsame⟩ := X0.leave (v := some (.int (3 : Int32))) (fun h => by rw [Bd.returns] at h; cases h)
                refine ⟨_, _, c46 _ ?_, hrun, hended, _, _, rfl, ?_, ⟨_, rfl⟩, hW, hsame.mono (by decide) (by decide)⟩
                · show Steps p.tables e below (s₁.setTop (mkF m 80 #[.val (.int p1), .val (.int p2), .val (.int p3), .val (.int p4), .val (.int p5), .val (.int p1), .val (.int (p1 + p2)), .val (.int ((p1 + p2) + p3)), .val (.int (((p1 + p2) + p3) + p4))] [(.int ((16 : Int32) * (((p1 + p2) + p3) + p4))), (.int p5)])) _
                  refine XS.icmpNo X0.here hx rfl (hb hby d2_80) rfl (tlt hc80).2.1 ?_
                  show Steps p.tables e below (s₁.setTop (mkF m 83 #[.val (.int p1), .val (.int p2), .val (.int p3), .val (.int p4), .val (.int p5), .val (.int p1), .val (.int (p1 + p2)), .val (.int ((p1 + p2) + p3)), .val (.int (((p1 + p2) + p3) + p4))] [])) _
                  refine XS.iconst X0.here hx rfl (hb hby d2_83) ?_
                  show Steps p.tables e below (s₁.setTop (mkF m 84 #[.val (.int p1), .val (.int p2), .val (.int p3), .val (.int p4), .val (.int p5), .val (.int p1), .val (.int (p1 + p2)), .val (.int ((p1 + p2) + p3)), .val (.int (((p1 + p2) + p3) + p4))] [(.int (3 : Int32))])) _
                  exact retI X0 hx Bd.returns (hb hby d2_84) hr
                · show Q2 Z p1 p2 p3 p4 p5 h0 n0 _ s₁.heap _
                  rw [e0]
                  have hv : (own_exp p1 p2 p3 p4 p5) = (3 : Int32) := by unfold own_exp; rw [if_neg hc22, if_pos hc38, if_neg hc48, if_pos hc54, if_neg hc64, if_pos hc70, if_pos hc80]
                  exact ⟨by rw [hv], N0, rfl⟩
              · have c47 : ∀ t, Steps p.tables e below (s₁.setTop (mkF m 86 #[.val (.int p1), .val (.int p2), .val (.int p3), .val (.int p4), .val (.int p5), .val (.int p1), .val (.int (p1 + p2)), .val (.int ((p1 + p2) + p3)), .val (.int (((p1 + p2) + p3) + p4))] [(.int p4)])) t → Steps p.tables e below (s₁.setTop (entryFrame m #[(.int p1), (.int p2), (.int p3), (.int p4), (.int p5)] 9)) t := fun t kt => by
                  refine c46 _ ?_
                  show Steps p.tables e below (s₁.setTop (mkF m 80 #[.val (.int p1), .val (.int p2), .val (.int p3), .val (.int p4), .val (.int p5), .val (.int p1), .val (.int (p1 + p2)), .val (.int ((p1 + p2) + p3)), .val (.int (((p1 + p2) + p3) + p4))] [(.int ((16 : Int32) * (((p1 + p2) + p3) + p4))), (.int p5)])) _
                  refine XS.icmpYes X0.here hx rfl (pc0 := 80) (pc' := 85) rfl (hb hby d2_80) rfl (flt hc80).2.1 (by decide) (by decide) ?_
                  show Steps p.tables e below (s₁.setTop (mkF m 85 #[.val (.int p1), .val (.int p2), .val (.int p3), .val (.int p4), .val (.int p5), .val (.int p1), .val (.int (p1 + p2)), .val (.int ((p1 + p2) + p3)), .val (.int (((p1 + p2) + p3) + p4))] [])) _
                  refine XS.iloadN X0.here hx rfl (hb hby d2_85) rfl ?_
                  exact kt
                by_cases hc86 : (0 : Int32) < p4
                · obtain ⟨fs, hr, hrun, hended, hW, hsame⟩ := X0.leave (v := some (.int (3 : Int32))) (fun h => by rw [Bd.returns] at h; cases h)
                  refine ⟨_, _, c47 _ ?_, hrun, hended, _, _, rfl, ?_, ⟨_, rfl⟩, hW, hsame.mono (by decide) (by decide)⟩
                  · show Steps p.tables e below (s₁.setTop (mkF m 86 #[.val (.int p1), .val (.int p2), .val (.int p3), .val (.int p4), .val (.int p5), .val (.int p1), .val (.int (p1 + p2)), .val (.int ((p1 + p2) + p3)), .val (.int (((p1 + p2) + p3) + p4))] [(.int p4)])) _
                    refine XS.ifNo X0.here hx rfl (hb hby d2_86) rfl ((if0 _ _).trans (tlt hc86).2.2.2) ?_
                    show Steps p.tables e below (s₁.setTop (mkF m 89 #[.val (.int p1), .val (.int p2), .val (.int p3), .val (.int p4), .val (.int p5), .val (.int p1), .val (.int (p1 + p2)), .val (.int ((p1 + p2) + p3)), .val (.int (((p1 + p2) + p3) + p4))] [])) _
                    refine XS.iconst X0.here hx rfl (hb hby d2_89) ?_
                    show Steps p.tables e below (s₁.setTop (mkF m 90 #[.val (.int p1), .val (.int p2), .val (.int p3), .val (.int p4), .val (.int p5), .val (.int p1), .val (.int (p1 + p2)), .val (.int ((p1 + p2) + p3)), .val (.int (((p1 + p2) + p3) + p4))] [(.int (3 : Int32))])) _
                    exact retI X0 hx Bd.returns (hb hby d2_90) hr
                  · show Q2 Z p1 p2 p3 p4 p5 h0 n0 _ s₁.heap _
                    rw [e0]
                    have hv : (own_exp p1 p2 p3 p4 p5) = (3 : Int32) := by unfold own_exp; rw [if_neg hc22, if_pos hc38, if_neg hc48, if_pos hc54, if_neg hc64, if_pos hc70, if_neg hc80, if_pos hc86]
                    exact ⟨by rw [hv], N0, rfl⟩
                · have c48 : ∀ t, Steps p.tables e below (s₁.setTop (mkF m 92 #[.val (.int p1), .val (.int p2), .val (.int p3), .val (.int p4), .val (.int p5), .val (.int p1), .val (.int (p1 + p2)), .val (.int ((p1 + p2) + p3)), .val (.int (((p1 + p2) + p3) + p4))] [(.int p3)])) t → Steps p.tables e below (s₁.setTop (entryFrame m #[(.int p1), (.int p2), (.int p3), (.int p4), (.int p5)] 9)) t := fun t kt => by
                    refine c47 _ ?_
                    show Steps p.tables e below (s₁.setTop (mkF m 86 #[.val (.int p1), .val (.int p2), .val (.int p3), .val (.int p4), .val (.int p5), .val (.int p1), .val (.int (p1 + p2)), .val (.int ((p1 + p2) + p3)), .val (.int (((p1 + p2) + p3) + p4))] [(.int p4)])) _
                    refine XS.ifYes X0.here hx rfl (pc0 := 86) (pc' := 91) rfl (hb hby d2_86) rfl ((if0 _ _).trans (flt hc86).2.2.2) (by decide) (by decide) ?_
                    show Steps p.tables e below (s₁.setTop (mkF m 91 #[.val (.int p1), .val (.int p2), .val (.int p3), .val (.int p4), .val (.int p5), .val (.int p1), .val (.int (p1 + p2)), .val (.int ((p1 + p2) + p3)), .val (.int (((p1 + p2) + p3) + p4))] [])) _
                    refine XS.iloadN X0.here hx rfl (hb hby d2_91) rfl ?_
                    exact kt
                  by_cases hc92 : (0 : Int32) < p3
                  · obtain ⟨fs, hr, hrun, hended, hW, hsame⟩ := X0.leave (v := some (.int (2 : Int32))) (fun h => by rw [Bd.returns] at h; cases h)
                    refine ⟨_, _, c48 _ ?_, hrun, hended, _, _, rfl, ?_, ⟨_, rfl⟩, hW, hsame.mono (by decide) (by decide)⟩
                    · show Steps p.tables e below (s₁.setTop (mkF m 92 #[.val (.int p1), .val (.int p2), .val (.int p3), .val (.int p4), .val (.int p5), .val (.int p1), .val (.int (p1 + p2)), .val (.int ((p1 + p2) + p3)), .val (.int (((p1 + p2) + p3) + p4))] [(.int p3)])) _
                      refine XS.ifNo X0.here hx rfl (hb hby d2_92) rfl ((if0 _ _).trans (tlt hc92).2.2.2) ?_
                      show Steps p.tables e below (s₁.setTop (mkF m 95 #[.val (.int p1), .val (.int p2), .val (.int p3), .val (.int p4), .val (.int p5), .val (.int p1), .val (.int (p1 + p2)), .val (.int ((p1 + p2) + p3)), .val (.int (((p1 + p2) + p3) + p4))] [])) _
                      refine XS.iconst X0.here hx rfl (hb hby d2_95) ?_
                      show Steps p.tables e below (s₁.setTop (mkF m 96 #[.val (.int p1), .val (.int p2), .val (.int p3), .val (.int p4), .val (.int p5), .val (.int p1), .val (.int (p1 + p2)), .val (.int ((p1 + p2) + p3)), .val (.int (((p1 + p2) + p3) + p4))] [(.int (2 : Int32))])) _
                      exact retI X0 hx Bd.returns (hb hby d2_96) hr
                    · show Q2 Z p1 p2 p3 p4 p5 h0 n0 _ s₁.heap _
                      rw [e0]
                      have hv : (own_exp p1 p2 p3 p4 p5) = (2 : Int32) := by unfold own_exp; rw [if_neg hc22, if_pos hc38, if_neg hc48, if_pos hc54, if_neg hc64, if_pos hc70, if_neg hc80, if_neg hc86, if_pos hc92]
                      exact ⟨by rw [hv], N0, rfl⟩
                  · have c49 : ∀ t, Steps p.tables e below (s₁.setTop (mkF m 98 #[.val (.int p1), .val (.int p2), .val (.int p3), .val (.int p4), .val (.int p5), .val (.int p1), .val (.int (p1 + p2)), .val (.int ((p1 + p2) + p3)), .val (.int (((p1 + p2) + p3) + p4))] [(.int p2)])) t → Steps p.tables e below (s₁.setTop (entryFrame m #[(.int p1), (.int p2), (.int p3), (.int p4), (.int p5)] 9)) t := fun t kt => by
                      refine c48 _ ?_
                      show Steps p.tables e below (s₁.setTop (mkF m 92 #[.val (.int p1), .val (.int p2), .val (.int p3), .val (.int p4), .val (.int p5), .val (.int p1), .val (.int (p1 + p2)), .val (.int ((p1 + p2) + p3)), .val (.int (((p1 + p2) + p3) + p4))] [(.int p3)])) _
                      refine XS.ifYes X0.here hx rfl (pc0 := 92) (pc' := 97) rfl (hb hby d2_92) rfl ((if0 _ _).trans (flt hc92).2.2.2) (by decide) (by decide) ?_
                      show Steps p.tables e below (s₁.setTop (mkF m 97 #[.val (.int p1), .val (.int p2), .val (.int p3), .val (.int p4), .val (.int p5), .val (.int p1), .val (.int (p1 + p2)), .val (.int ((p1 + p2) + p3)), .val (.int (((p1 + p2) + p3) + p4))] [])) _
                      refine XS.iloadN X0.here hx rfl (hb hby d2_97) rfl ?_
                      exact kt
                    by_cases hc98 : (0 : Int32) < p2
                    · obtain ⟨fs, hr, hrun, hended, hW, hsame⟩ := X0.leave (v := some (.int (1 : Int32))) (fun h => by rw [Bd.returns] at h; cases h)
                      refine ⟨_, _, c49 _ ?_, hrun, hended, _, _, rfl, ?_, ⟨_, rfl⟩, hW, hsame.mono (by decide) (by decide)⟩
                      · show Steps p.tables e below (s₁.setTop (mkF m 98 #[.val (.int p1), .val (.int p2), .val (.int p3), .val (.int p4), .val (.int p5), .val (.int p1), .val (.int (p1 + p2)), .val (.int ((p1 + p2) + p3)), .val (.int (((p1 + p2) + p3) + p4))] [(.int p2)])) _
                        refine XS.ifNo X0.here hx rfl (hb hby d2_98) rfl ((if0 _ _).trans (tlt hc98).2.2.2) ?_
                        show Steps p.tables e below (s₁.setTop (mkF m 101 #[.val (.int p1), .val (.int p2), .val (.int p3), .val (.int p4), .val (.int p5), .val (.int p1), .val (.int (p1 + p2)), .val (.int ((p1 + p2) + p3)), .val (.int (((p1 + p2) + p3) + p4))] [])) _
                        refine XS.iconst X0.here hx rfl (hb hby d2_101) ?_
                        show Steps p.tables e below (s₁.setTop (mkF m 102 #[.val (.int p1), .val (.int p2), .val (.int p3), .val (.int p4), .val (.int p5), .val (.int p1), .val (.int (p1 + p2)), .val (.int ((p1 + p2) + p3)), .val (.int (((p1 + p2) + p3) + p4))] [(.int (1 : Int32))])) _
                        exact retI X0 hx Bd.returns (hb hby d2_102) hr
                      · show Q2 Z p1 p2 p3 p4 p5 h0 n0 _ s₁.heap _
                        rw [e0]
                        have hv : (own_exp p1 p2 p3 p4 p5) = (1 : Int32) := by unfold own_exp; rw [if_neg hc22, if_pos hc38, if_neg hc48, if_pos hc54, if_neg hc64, if_pos hc70, if_neg hc80, if_neg hc86, if_neg hc92, if_pos hc98]
                        exact ⟨by rw [hv], N0, rfl⟩
                    · obtain ⟨fs, hr, hrun, hended, hW, hsame⟩ := X0.leave (v := some (.int (0 : Int32))) (fun h => by rw [Bd.returns] at h; cases h)
                      refine ⟨_, _, c49 _ ?_, hrun, hended, _, _, rfl, ?_, ⟨_, rfl⟩, hW, hsame.mono (by decide) (by decide)⟩
                      · show Steps p.tables e below (s₁.setTop (mkF m 98 #[.val (.int p1), .val (.int p2), .val (.int p3), .val (.int p4), .val (.int p5), .val (.int p1), .val (.int (p1 + p2)), .val (.int ((p1 + p2) + p3)), .val (.int (((p1 + p2) + p3) + p4))] [(.int p2)])) _
                        refine XS.ifYes X0.here hx rfl (pc0 := 98) (pc' := 103) rfl (hb hby d2_98) rfl ((if0 _ _).trans (flt hc98).2.2.2) (by decide) (by decide) ?_
                        show Steps p.tables e below (s₁.setTop (mkF m 103 #[.val (.int p1), .val (.int p2), .val (.int p3), .val (.int p4), .val (.int p5), .val (.int p1), .val (.int (p1 + p2)), .val (.int ((p1 + p2) + p3)), .val (.int (((p1 + p2) + p3) + p4))] [])) _
                        refine XS.iconst X0.here hx rfl (hb hby d2_103) ?_
                        show Steps p.tables e below (s₁.setTop (mkF m 104 #[.val (.int p1), .val (.int p2), .val (.int p3), .val (.int p4), .val (.int p5), .val (.int p1), .val (.int (p1 + p2)), .val (.int ((p1 + p2) + p3)), .val (.int (((p1 + p2) + p3) + p4))] [(.int (0 : Int32))])) _
                        exact retI X0 hx Bd.returns (hb hby d2_104) hr
                      · show Q2 Z p1 p2 p3 p4 p5 h0 n0 _ s₁.heap _
                        rw [e0]
                        have hv : (own_exp p1 p2 p3 p4 p5) = (0 : Int32) := by unfold own_exp; rw [if_neg hc22, if_pos hc38, if_neg hc48, if_pos hc54, if_neg hc64, if_pos hc70, if_neg hc80, if_neg hc86, if_neg hc92, if_neg hc98]
                        exact ⟨by rw [hv], N0, rfl⟩
            · have c50 : ∀ t, Steps p.tables e below (s₁.setTop (mkF m 86 #[.val (.int p1), .val (.int p2), .val (.int p3), .val (.int p4), .val (.int p5), .val (.int p1), .val (.int (p1 + p2)), .val (.int ((p1 + p2) + p3)), .val (.int (((p1 + p2) + p3) + p4))] [(.int p4)])) t → Steps p.tables e below (s₁.setTop (entryFrame m #[(.int p1), (.int p2), (.int p3), (.int p4), (.int p5)] 9)) t := fun t kt => by
                refine c45 _ ?_
                show Steps p.tables e below (s₁.setTop (mkF m 70 #[.val (.int p1), .val (.int p2), .val (.int p3), .val (.int p4), .val (.int p5), .val (.int p1), .val (.int (p1 + p2)), .val (.int ((p1 + p2) + p3)), .val (.int (((p1 + p2) + p3) + p4))] [(.int p4)])) _
                refine XS.ifYes X0.here hx rfl (pc0 := 70) (pc' := 85) rfl (hb hby d2_70) rfl ((if0 _ _).trans (flt hc70).2.2.2) (by decide) (by decide) ?_
                show Steps p.tables e below (s₁.setTop (mkF m 85 #[.val (.int p1), .val (.int p2), .val (.int p3), .val (.int p4), .val (.int p5), .val (.int p1), .val (.int (p1 + p2)), .val (.int ((p1 + p2) + p3)), .val (.int (((p1 + p2) + p3) + p4))] [])) _
                refine XS.iloadN X0.here hx rfl (hb hby d2_85) rfl ?_
                exact kt
              by_cases hc86 : (0 : Int32) < p4
              · obtain ⟨fs, hr, hrun, hended, hW, hsame⟩ := X0.leave (v := some (.int (3 : Int32))) (fun h => by rw [Bd.returns] at h; cases h)
                refine ⟨_, _, c50 _ ?_, hrun, hended, _, _, rfl, ?_, ⟨_, rfl⟩, hW, hsame.mono (by decide) (by decide)⟩
                · show Steps p.tables e below (s₁.setTop (mkF m 86 #[.val (.int p1), .val (.int p2), .val (.int p3), .val (.int p4), .val (.int p5), .val (.int p1), .val (.int (p1 + p2)), .val (.int ((p1 + p2) + p3)), .val (.int (((p1 + p2) + p3) + p4))] [(.int p4)])) _
                  refine XS.ifNo X0.here hx rfl (hb hby d2_86) rfl ((if0 _ _).trans (tlt hc86).2.2.2) ?_
                  show Steps p.tables e below (s₁.setTop (mkF m 89 #[.val (.int p1), .val (.int p2), .val (.int p3), .val (.int p4), .val (.int p5), .val (.int p1), .val (.int (p1 + p2)), .val (.int ((p1 + p2) + p3)), .val (.int (((p1 + p2) + p3) + p4))] [])) _
                  refine XS.iconst X0.here hx rfl (hb hby d2_89) ?_
                  show Steps p.tables e below (s₁.setTop (mkF m 90 #[.val (.int p1), .val (.int p2), .val (.int p3), .val (.int p4), .val (.int p5), .val (.int p1), .val (.int (p1 + p2)), .val (.int ((p1 + p2) + p3)), .val (.int (((p1 + p2) + p3) + p4))] [(.int (3 : Int32))])) _
                  exact retI X0 hx Bd.returns (hb hby d2_90) hr
                · show Q2 Z p1 p2 p3 p4 p5 h0 n0 _ s₁.heap _
                  rw [e0]
                  have hv : (own_exp p1 p2 p3 p4 p5) = (3 : Int32) := by unfold own_exp; rw [if_neg hc22, if_pos hc38, if_neg hc48, if_pos hc54, if_neg hc64, if_neg hc70, if_pos hc86]
                  exact ⟨by rw [hv], N0, rfl⟩
              · have c51 : ∀ t, Steps p.tables e below (s₁.setTop (mkF m 92 #[.val (.int p1), .val (.int p2), .val (.int p3), .val (.int p4), .val (.int p5), .val (.int p1), .val (.int (p1 + p2)), .val (.int ((p1 + p2) + p3)), .val (.int (((p1 + p2) + p3) + p4))] [(.int p3)])) t → Steps p.tables e below (s₁.setTop (entryFrame m #[(.int p1), (.int p2), (.int p3), (.int p4), (.int p5)] 9)) t := fun t kt => by
                  refine c50 _ ?_
                  show Steps p.tables e below (s₁.setTop (mkF m 86 #[.val (.int p1), .val (.int p2), .val (.int p3), .val (.int p4), .val (.int p5), .val (.int p1), .val (.int (p1 + p2)), .val (.int ((p1 + p2) + p3)), .val (.int (((p1 + p2) + p3) + p4))] [(.int p4)])) _
                  refine XS.ifYes X0.here hx rfl (pc0 := 86) (pc' := 91) rfl (hb hby d2_86) rfl ((if0 _ _).trans (flt hc86).2.2.2) (by decide) (by decide) ?_
                  show Steps p.tables e below (s₁.setTop (mkF m 91 #[.val (.int p1), .val (.int p2), .val (.int p3), .val (.int p4), .val (.int p5), .val (.int p1), .val (.int (p1 + p2)), .val (.int ((p1 + p2) + p3)), .val (.int (((p1 + p2) + p3) + p4))] [])) _
                  refine XS.iloadN X0.here hx rfl (hb hby d2_91) rfl ?_
                  exact kt
                by_cases hc92 : (0 : Int32) < p3
                · obtain ⟨fs, hr, hrun, hended, hW, hsame⟩ := X0.leave (v := some (.int (2 : Int32))) (fun h => by rw [Bd.returns] at h; cases h)
                  refine ⟨_, _, c51 _ ?_, hrun, hended, _, _, rfl, ?_, ⟨_, rfl⟩, hW, hsame.mono (by decide) (by decide)⟩
                  · show Steps p.tables e below (s₁.setTop (mkF m 92 #[.val (.int p1), .val (.int p2), .val (.int p3), .val (.int p4), .val (.int p5), .val (.int p1), .val (.int (p1 + p2)), .val (.int ((p1 + p2) + p3)), .val (.int (((p1 + p2) + p3) + p4))] [(.int p3)])) _
                    refine XS.ifNo X0.here hx rfl (hb hby d2_92) rfl ((if0 _ _).trans (tlt hc92).2.2.2) ?_
                    show Steps p.tables e below (s₁.setTop (mkF m 95 #[.val (.int p1), .val (.int p2), .val (.int p3), .val (.int p4), .val (.int p5), .val (.int p1), .val (.int (p1 + p2)), .val (.int ((p1 + p2) + p3)), .val (.int (((p1 + p2) + p3) + p4))] [])) _
                    refine XS.iconst X0.here hx rfl (hb hby d2_95) ?_
                    show Steps p.tables e below (s₁.setTop (mkF m 96 #[.val (.int p1), .val (.int p2), .val (.int p3), .val (.int p4), .val (.int p5), .val (.int p1), .val (.int (p1 + p2)), .val (.int ((p1 + p2) + p3)), .val (.int (((p1 + p2) + p3) + p4))] [(.int (2 : Int32))])) _
                    exact retI X0 hx Bd.returns (hb hby d2_96) hr
                  · show Q2 Z p1 p2 p3 p4 p5 h0 n0 _ s₁.heap _
                    rw [e0]
                    have hv : (own_exp p1 p2 p3 p4 p5) = (2 : Int32) := by unfold own_exp; rw [if_neg hc22, if_pos hc38, if_neg hc48, if_pos hc54, if_neg hc64, if_neg hc70, if_neg hc86, if_pos hc92]
                    exact ⟨by rw [hv], N0, rfl⟩
                · have c52 : ∀ t, Steps p.tables e below (s₁.setTop (mkF m 98 #[.val (.int p1), .val (.int p2), .val (.int p3), .val (.int p4), .val (.int p5), .val (.int p1), .val (.int (p1 + p2)), .val (.int ((p1 + p2) + p3)), .val (.int (((p1 + p2) + p3) + p4))] [(.int p2)])) t → Steps p.tables e below (s₁.setTop (entryFrame m #[(.int p1), (.int p2), (.int p3), (.int p4), (.int p5)] 9)) t := fun t kt => by
                    refine c51 _ ?_
                    show Steps p.tables e below (s₁.setTop (mkF m 92 #[.val (.int p1), .val (.int p2), .val (.int p3), .val (.int p4), .val (.int p5), .val (.int p1), .val (.int (p1 + p2)), .val (.int ((p1 + p2) + p3)), .val (.int (((p1 + p2) + p3) + p4))] [(.int p3)])) _
                    refine XS.ifYes X0.here hx rfl (pc0 := 92) (pc' := 97) rfl (hb hby d2_92) rfl ((if0 _ _).trans (flt hc92).2.2.2) (by decide) (by decide) ?_
                    show Steps p.tables e below (s₁.setTop (mkF m 97 #[.val (.int p1), .val (.int p2), .val (.int p3), .val (.int p4), .val (.int p5), .val (.int p1), .val (.int (p1 + p2)), .val (.int ((p1 + p2) + p3)), .val (.int (((p1 + p2) + p3) + p4))] [])) _
                    refine XS.iloadN X0.here hx rfl (hb hby d2_97) rfl ?_
                    exact kt
                  by_cases hc98 : (0 : Int32) < p2
                  · obtain ⟨fs, hr, hrun, hended, hW, hsame⟩ := X0.leave (v := some (.int (1 : Int32))) (fun h => by rw [Bd.returns] at h; cases h)
                    refine ⟨_, _, c52 _ ?_, hrun, hended, _, _, rfl, ?_, ⟨_, rfl⟩, hW, hsame.mono (by decide) (by decide)⟩
                    · show Steps p.tables e below (s₁.setTop (mkF m 98 #[.val (.int p1), .val (.int p2), .val (.int p3), .val (.int p4), .val (.int p5), .val (.int p1), .val (.int (p1 + p2)), .val (.int ((p1 + p2) + p3)), .val (.int (((p1 + p2) + p3) + p4))] [(.int p2)])) _
                      refine XS.ifNo X0.here hx rfl (hb hby d2_98) rfl ((if0 _ _).trans (tlt hc98).2.2.2) ?_
                      show Steps p.tables e below (s₁.setTop (mkF m 101 #[.val (.int p1), .val (.int p2), .val (.int p3), .val (.int p4), .val (.int p5), .val (.int p1), .val (.int (p1 + p2)), .val (.int ((p1 + p2) + p3)), .val (.int (((p1 + p2) + p3) + p4))] [])) _
                      refine XS.iconst X0.here hx rfl (hb hby d2_101) ?_
                      show Steps p.tables e below (s₁.setTop (mkF m 102 #[.val (.int p1), .val (.int p2), .val (.int p3), .val (.int p4), .val (.int p5), .val (.int p1), .val (.int (p1 + p2)), .val (.int ((p1 + p2) + p3)), .val (.int (((p1 + p2) + p3) + p4))] [(.int (1 : Int32))])) _
                      exact retI X0 hx Bd.returns (hb hby d2_102) hr
                    · show Q2 Z p1 p2 p3 p4 p5 h0 n0 _ s₁.heap _
                      rw [e0]
                      have hv : (own_exp p1 p2 p3 p4 p5) = (1 : Int32) := by unfold own_exp; rw [if_neg hc22, if_pos hc38, if_neg hc48, if_pos hc54, if_neg hc64, if_neg hc70, if_neg hc86, if_neg hc92, if_pos hc98]
                      exact ⟨by rw [hv], N0, rfl⟩
                  · obtain ⟨fs, hr, hrun, hended, hW, hsame⟩ := X0.leave (v := some (.int (0 : Int32))) (fun h => by rw [Bd.returns] at h; cases h)
                    refine ⟨_, _, c52 _ ?_, hrun, hended, _, _, rfl, ?_, ⟨_, rfl⟩, hW, hsame.mono (by decide) (by decide)⟩
                    · show Steps p.tables e below (s₁.setTop (mkF m 98 #[.val (.int p1), .val (.int p2), .val (.int p3), .val (.int p4), .val (.int p5), .val (.int p1), .val (.int (p1 + p2)), .val (.int ((p1 + p2) + p3)), .val (.int (((p1 + p2) + p3) + p4))] [(.int p2)])) _
                      refine XS.ifYes X0.here hx rfl (pc0 := 98) (pc' := 103) rfl (hb hby d2_98) rfl ((if0 _ _).trans (flt hc98).2.2.2) (by decide) (by decide) ?_
                      show Steps p.tables e below (s₁.setTop (mkF m 103 #[.val (.int p1), .val (.int p2), .val (.int p3), .val (.int p4), .val (.int p5), .val (.int p1), .val (.int (p1 + p2)), .val (.int ((p1 + p2) + p3)), .val (.int (((p1 + p2) + p3) + p4))] [])) _
                      refine XS.iconst X0.here hx rfl (hb hby d2_103) ?_
                      show Steps p.tables e below (s₁.setTop (mkF m 104 #[.val (.int p1), .val (.int p2), .val (.int p3), .val (.int p4), .val (.int p5), .val (.int p1), .val (.int (p1 + p2)), .val (.int ((p1 + p2) + p3)), .val (.int (((p1 + p2) + p3) + p4))] [(.int (0 : Int32))])) _
                      exact retI X0 hx Bd.returns (hb hby d2_104) hr
                    · show Q2 Z p1 p2 p3 p4 p5 h0 n0 _ s₁.heap _
                      rw [e0]
                      have hv : (own_exp p1 p2 p3 p4 p5) = (0 : Int32) := by unfold own_exp; rw [if_neg hc22, if_pos hc38, if_neg hc48, if_pos hc54, if_neg hc64, if_neg hc70, if_neg hc86, if_neg hc92, if_neg hc98]
                      exact ⟨by rw [hv], N0, rfl⟩
        · have c53 : ∀ t, Steps p.tables e below (s₁.setTop (mkF m 70 #[.val (.int p1), .val (.int p2), .val (.int p3), .val (.int p4), .val (.int p5), .val (.int p1), .val (.int (p1 + p2)), .val (.int ((p1 + p2) + p3)), .val (.int (((p1 + p2) + p3) + p4))] [(.int p4)])) t → Steps p.tables e below (s₁.setTop (entryFrame m #[(.int p1), (.int p2), (.int p3), (.int p4), (.int p5)] 9)) t := fun t kt => by
            refine c43 _ ?_
            show Steps p.tables e below (s₁.setTop (mkF m 54 #[.val (.int p1), .val (.int p2), .val (.int p3), .val (.int p4), .val (.int p5), .val (.int p1), .val (.int (p1 + p2)), .val (.int ((p1 + p2) + p3)), .val (.int (((p1 + p2) + p3) + p4))] [(.int p3)])) _
            refine XS.ifYes X0.here hx rfl (pc0 := 54) (pc' := 69) rfl (hb hby d2_54) rfl ((if0 _ _).trans (flt hc54).2.2.2) (by decide) (by decide) ?_
            show Steps p.tables e below (s₁.setTop (mkF m 69 #[.val (.int p1), .val (.int p2), .val (.int p3), .val (.int p4), .val (.int p5), .val (.int p1), .val (.int (p1 + p2)), .val (.int ((p1 + p2) + p3)), .val (.int (((p1 + p2) + p3) + p4))] [])) _
            refine XS.iloadN X0.here hx rfl (hb hby d2_69) rfl ?_
            exact kt
          by_cases hc70 : (0 : Int32) < p4
          · have c54 : ∀ t, Steps p.tables e below (s₁.setTop (mkF m 80 #[.val (.int p1), .val (.int p2), .val (.int p3), .val (.int p4), .val (.int p5), .val (.int p1), .val (.int (p1 + p2)), .val (.int ((p1 + p2) + p3)), .val (.int (((p1 + p2) + p3) + p4))] [(.int ((16 : Int32) * (((p1 + p2) + p3) + p4))), (.int p5)])) t → Steps p.tables e below (s₁.setTop (entryFrame m #[(.int p1), (.int p2), (.int p3), (.int p4), (.int p5)] 9)) t := fun t kt => by
              refine c53 _ ?_
              show Steps p.tables e below (s₁.setTop (mkF m 70 #[.val (.int p1), .val (.int p2), .val (.int p3), .val (.int p4), .val (.int p5), .val (.int p1), .val (.int (p1 + p2)), .val (.int ((p1 + p2) + p3)), .val (.int (((p1 + p2) + p3) + p4))] [(.int p4)])) _
              refine XS.ifNo X0.here hx rfl (hb hby d2_70) rfl ((if0 _ _).trans (tlt hc70).2.2.2) ?_
              show Steps p.tables e below (s₁.setTop (mkF m 73 #[.val (.int p1), .val (.int p2), .val (.int p3), .val (.int p4), .val (.int p5), .val (.int p1), .val (.int (p1 + p2)), .val (.int ((p1 + p2) + p3)), .val (.int (((p1 + p2) + p3) + p4))] [])) _
              refine XS.iload X0.here hx rfl (hb hby d2_73) rfl ?_
              show Steps p.tables e below (s₁.setTop (mkF m 75 #[.val (.int p1), .val (.int p2), .val (.int p3), .val (.int p4), .val (.int p5), .val (.int p1), .val (.int (p1 + p2)), .val (.int ((p1 + p2) + p3)), .val (.int (((p1 + p2) + p3) + p4))] [(.int p5)])) _
              refine XS.bipush X0.here hx rfl (hb hby d2_75) ?_
              show Steps p.tables e below (s₁.setTop (mkF m 77 #[.val (.int p1), .val (.int p2), .val (.int p3), .val (.int p4), .val (.int p5), .val (.int p1), .val (.int (p1 + p2)), .val (.int ((p1 + p2) + p3)), .val (.int (((p1 + p2) + p3) + p4))] [(.int (16 : Int32)), (.int p5)])) _
              refine XS.iload X0.here hx rfl (hb hby d2_77) rfl ?_
              show Steps p.tables e below (s₁.setTop (mkF m 79 #[.val (.int p1), .val (.int p2), .val (.int p3), .val (.int p4), .val (.int p5), .val (.int p1), .val (.int (p1 + p2)), .val (.int ((p1 + p2) + p3)), .val (.int (((p1 + p2) + p3) + p4))] [(.int (((p1 + p2) + p3) + p4)), (.int (16 : Int32)), (.int p5)])) _
              refine XS.imul X0.here hx rfl (hb hby d2_79) rfl ?_
              exact kt
            by_cases hc80 : p5 < ((16 : Int32) * (((p1 + p2) + p3) + p4))
            · obtain ⟨fs, hr, hrun, hended, hW, hsame⟩ := X0.leave (v := some (.int (3 : Int32))) (fun h => by rw [Bd.returns] at h; cases h)
              refine ⟨_, _, c54 _ ?_, hrun, hended, _, _, rfl, ?_, ⟨_, rfl⟩, hW, hsame.mono (by decide) (by decide)⟩
              · show Steps p.tables e below (s₁.setTop (mkF m 80 #[.val (.int p1), .val (.int p2), .val (.int p3), .val (.int p4), .val (.int p5), .val (.int p1), .val (.int (p1 + p2)), .val (.int ((p1 + p2) + p3)), .val (.int (((p1 + p2) + p3) + p4))] [(.int ((16 : Int32) * (((p1 + p2) + p3) + p4))), (.int p5)])) _
                refine XS.icmpNo X0.here hx rfl (hb hby d2_80) rfl (tlt hc80).2.1 ?_
                show Steps p.tables e below (s₁.setTop (mkF m 83 #[.val (.int p1), .val (.int p2), .val (.int p3), .val (.int p4), .val (.int p5), .val (.int p1), .val (.int (p1 + p2)), .val (.int ((p1 + p2) + p3)), .val (.int (((p1 + p2) + p3) + p4))] [])) _
                refine XS.iconst X0.here hx rfl (hb hby d2_83) ?_
                show Steps p.tables e below (s₁.setTop (mkF m 84 #[.val (.int p1), .val (.int p2), .val (.int p3), .val (.int p4), .val (.int p5), .val (.int p1), .val (.int (p1 + p2)), .val (.int ((p1 + p2) + p3)), .val (.int (((p1 + p2) + p3) + p4))] [(.int (3 : Int32))])) _
                exact retI X0 hx Bd.returns (hb hby d2_84) hr
              · show Q2 Z p1 p2 p3 p4 p5 h0 n0 _ s₁.heap _
                rw [e0]
                have hv : (own_exp p1 p2 p3 p4 p5) = (3 : Int32) := by unfold own_exp; rw [if_neg hc22, if_pos hc38, if_neg hc48, if_neg hc54, if_pos hc70, if_pos hc80]
                exact ⟨by rw [hv], N0, rfl⟩
            · have c55 : ∀ t, Steps p.tables e below (s₁.setTop (mkF m 86 #[.val (.int p1), .val (.int p2), .val (.int p3), .val (.int p4), .val (.int p5), .val (.int p1), .val (.int (p1 + p2)), .val (.int ((p1 + p2) + p3)), .val (.int (((p1 + p2) + p3) + p4))] [(.int p4)])) t → Steps p.tables e below (s₁.setTop (entryFrame m #[(.int p1), (.int p2), (.int p3), (.int p4), (.int p5)] 9)) t := fun t kt => by
                refine c54 _ ?_
                show Steps p.tables e below (s₁.setTop (mkF m 80 #[.val (.int p1), .val (.int p2), .val (.int p3), .val (.int p4), .val (.int p5), .val (.int p1), .val (.int (p1 + p2)), .val (.int ((p1 + p2) + p3)), .val (.int (((p1 + p2) + p3) + p4))] [(.int ((16 : Int32) * (((p1 + p2) + p3) + p4))), (.int p5)])) _
                refine XS.icmpYes X0.here hx rfl (pc0 := 80) (pc' := 85) rfl (hb hby d2_80) rfl (flt hc80).2.1 (by decide) (by decide) ?_
                show Steps p.tables e below (s₁.setTop (mkF m 85 #[.val (.int p1), .val (.int p2), .val (.int p3), .val (.int p4), .val (.int p5), .val (.int p1), .val (.int (p1 + p2)), .val (.int ((p1 + p2) + p3)), .val (.int (((p1 + p2) + p3) + p4))] [])) _
                refine XS.iloadN X0.here hx rfl (hb hby d2_85) rfl ?_
                exact kt
              by_cases hc86 : (0 : Int32) < p4
              · obtain ⟨fs, hr, hrun, hended, hW, hsame⟩ := X0.leave (v := some (.int (3 : Int32))) (fun h => by rw [Bd.returns] at h; cases h)
                refine ⟨_, _, c55 _ ?_, hrun, hended, _, _, rfl, ?_, ⟨_, rfl⟩, hW, hsame.mono (by decide) (by decide)⟩
                · show Steps p.tables e below (s₁.setTop (mkF m 86 #[.val (.int p1), .val (.int p2), .val (.int p3), .val (.int p4), .val (.int p5), .val (.int p1), .val (.int (p1 + p2)), .val (.int ((p1 + p2) + p3)), .val (.int (((p1 + p2) + p3) + p4))] [(.int p4)])) _
                  refine XS.ifNo X0.here hx rfl (hb hby d2_86) rfl ((if0 _ _).trans (tlt hc86).2.2.2) ?_
                  show Steps p.tables e below (s₁.setTop (mkF m 89 #[.val (.int p1), .val (.int p2), .val (.int p3), .val (.int p4), .val (.int p5), .val (.int p1), .val (.int (p1 + p2)), .val (.int ((p1 + p2) + p3)), .val (.int (((p1 + p2) + p3) + p4))] [])) _
                  refine XS.iconst X0.here hx rfl (hb hby d2_89) ?_
                  show Steps p.tables e below (s₁.setTop (mkF m 90 #[.val (.int p1), .val (.int p2), .val (.int p3), .val (.int p4), .val (.int p5), .val (.int p1), .val (.int (p1 + p2)), .val (.int ((p1 + p2) + p3)), .val (.int (((p1 + p2) + p3) + p4))] [(.int (3 : Int32))])) _
                  exact retI X0 hx Bd.returns (hb hby d2_90) hr
                · show Q2 Z p1 p2 p3 p4 p5 h0 n0 _ s₁.heap _
                  rw [e0]
                  have hv : (own_exp p1 p2 p3 p4 p5) = (3 : Int32) := by unfold own_exp; rw [if_neg hc22, if_pos hc38, if_neg hc48, if_neg hc54, if_pos hc70, if_neg hc80, if_pos hc86]
                  exact ⟨by rw [hv], N0, rfl⟩
              · have c56 : ∀ t, Steps p.tables e below (s₁.setTop (mkF m 92 #[.val (.int p1), .val (.int p2), .val (.int p3), .val (.int p4), .val (.int p5), .val (.int p1), .val (.int (p1 + p2)), .val (.int ((p1 + p2) + p3)), .val (.int (((p1 + p2) + p3) + p4))] [(.int p3)])) t → Steps p.tables e below (s₁.setTop (entryFrame m #[(.int p1), (.int p2), (.int p3), (.int p4), (.int p5)] 9)) t := fun t kt => by
                  refine c55 _ ?_
                  show Steps p.tables e below (s₁.setTop (mkF m 86 #[.val (.int p1), .val (.int p2), .val (.int p3), .val (.int p4), .val (.int p5), .val (.int p1), .val (.int (p1 + p2)), .val (.int ((p1 + p2) + p3)), .val (.int (((p1 + p2) + p3) + p4))] [(.int p4)])) _
                  refine XS.ifYes X0.here hx rfl (pc0 := 86) (pc' := 91) rfl (hb hby d2_86) rfl ((if0 _ _).trans (flt hc86).2.2.2) (by decide) (by decide) ?_
                  show Steps p.tables e below (s₁.setTop (mkF m 91 #[.val (.int p1), .val (.int p2), .val (.int p3), .val (.int p4), .val (.int p5), .val (.int p1), .val (.int (p1 + p2)), .val (.int ((p1 + p2) + p3)), .val (.int (((p1 + p2) + p3) + p4))] [])) _
                  refine XS.iloadN X0.here hx rfl (hb hby d2_91) rfl ?_
                  exact kt
                by_cases hc92 : (0 : Int32) < p3
                · obtain ⟨fs, hr, hrun, hended, hW, hsame⟩ := X0.leave (v := some (.int (2 : Int32))) (fun h => by rw [Bd.returns] at h; cases h)
                  refine ⟨_, _, c56 _ ?_, hrun, hended, _, _, rfl, ?_, ⟨_, rfl⟩, hW, hsame.mono (by decide) (by decide)⟩
                  · show Steps p.tables e below (s₁.setTop (mkF m 92 #[.val (.int p1), .val (.int p2), .val (.int p3), .val (.int p4), .val (.int p5), .val (.int p1), .val (.int (p1 + p2)), .val (.int ((p1 + p2) + p3)), .val (.int (((p1 + p2) + p3) + p4))] [(.int p3)])) _
                    refine XS.ifNo X0.here hx rfl (hb hby d2_92) rfl ((if0 _ _).trans (tlt hc92).2.2.2) ?_
                    show Steps p.tables e below (s₁.setTop (mkF m 95 #[.val (.int p1), .val (.int p2), .val (.int p3), .val (.int p4), .val (.int p5), .val (.int p1), .val (.int (p1 + p2)), .val (.int ((p1 + p2) + p3)), .val (.int (((p1 + p2) + p3) + p4))] [])) _
                    refine XS.iconst X0.here hx rfl (hb hby d2_95) ?_
                    show Steps p.tables e below (s₁.setTop (mkF m 96 #[.val (.int p1), .val (.int p2), .val (.int p3), .val (.int p4), .val (.int p5), .val (.int p1), .val (.int (p1 + p2)), .val (.int ((p1 + p2) + p3)), .val (.int (((p1 + p2) + p3) + p4))] [(.int (2 : Int32))])) _
                    exact retI X0 hx Bd.returns (hb hby d2_96) hr
                  · show Q2 Z p1 p2 p3 p4 p5 h0 n0 _ s₁.heap _
                    rw [e0]
                    have hv : (own_exp p1 p2 p3 p4 p5) = (2 : Int32) := by unfold own_exp; rw [if_neg hc22, if_pos hc38, if_neg hc48, if_neg hc54, if_pos hc70, if_neg hc80, if_neg hc86, if_pos hc92]
                    exact ⟨by rw [hv], N0, rfl⟩
                · have c57 : ∀ t, Steps p.tables e below (s₁.setTop (mkF m 98 #[.val (.int p1), .val (.int p2), .val (.int p3), .val (.int p4), .val (.int p5), .val (.int p1), .val (.int (p1 + p2)), .val (.int ((p1 + p2) + p3)), .val (.int (((p1 + p2) + p3) + p4))] [(.int p2)])) t → Steps p.tables e below (s₁.setTop (entryFrame m #[(.int p1), (.int p2), (.int p3), (.int p4), (.int p5)] 9)) t := fun t kt => by
                    refine c56 _ ?_
                    show Steps p.tables e below (s₁.setTop (mkF m 92 #[.val (.int p1), .val (.int p2), .val (.int p3), .val (.int p4), .val (.int p5), .val (.int p1), .val (.int (p1 + p2)), .val (.int ((p1 + p2) + p3)), .val (.int (((p1 + p2) + p3) + p4))] [(.int p3)])) _
                    refine XS.ifYes X0.here hx rfl (pc0 := 92) (pc' := 97) rfl (hb hby d2_92) rfl ((if0 _ _).trans (flt hc92).2.2.2) (by decide) (by decide) ?_
                    show Steps p.tables e below (s₁.setTop (mkF m 97 #[.val (.int p1), .val (.int p2), .val (.int p3), .val (.int p4), .val (.int p5), .val (.int p1), .val (.int (p1 + p2)), .val (.int ((p1 + p2) + p3)), .val (.int (((p1 + p2) + p3) + p4))] [])) _
                    refine XS.iloadN X0.here hx rfl (hb hby d2_97) rfl ?_
                    exact kt
                  by_cases hc98 : (0 : Int32) < p2
                  · obtain ⟨fs, hr, hrun, hended, hW, hsame⟩ := X0.leave (v := some (.int (1 : Int32))) (fun h => by rw [Bd.returns] at h; cases h)
                    refine ⟨_, _, c57 _ ?_, hrun, hended, _, _, rfl, ?_, ⟨_, rfl⟩, hW, hsame.mono (by decide) (by decide)⟩
                    · show Steps p.tables e below (s₁.setTop (mkF m 98 #[.val (.int p1), .val (.int p2), .val (.int p3), .val (.int p4), .val (.int p5), .val (.int p1), .val (.int (p1 + p2)), .val (.int ((p1 + p2) + p3)), .val (.int (((p1 + p2) + p3) + p4))] [(.int p2)])) _
                      refine XS.ifNo X0.here hx rfl (hb hby d2_98) rfl ((if0 _ _).trans (tlt hc98).2.2.2) ?_
                      show Steps p.tables e below (s₁.setTop (mkF m 101 #[.val (.int p1), .val (.int p2), .val (.int p3), .val (.int p4), .val (.int p5), .val (.int p1), .val (.int (p1 + p2)), .val (.int ((p1 + p2) + p3)), .val (.int (((p1 + p2) + p3) + p4))] [])) _
                      refine XS.iconst X0.here hx rfl (hb hby d2_101) ?_
                      show Steps p.tables e below (s₁.setTop (mkF m 102 #[.val (.int p1), .val (.int p2), .val (.int p3), .val (.int p4), .val (.int p5), .val (.int p1), .val (.int (p1 + p2)), .val (.int ((p1 + p2) + p3)), .val (.int (((p1 + p2) + p3) + p4))] [(.int (1 : Int32))])) _
                      exact retI X0 hx Bd.returns (hb hby d2_102) hr
                    · show Q2 Z p1 p2 p3 p4 p5 h0 n0 _ s₁.heap _
                      rw [e0]
                      have hv : (own_exp p1 p2 p3 p4 p5) = (1 : Int32) := by unfold own_exp; rw [if_neg hc22, if_pos hc38, if_neg hc48, if_neg hc54, if_pos hc70, if_neg hc80, if_neg hc86, if_neg hc92, if_pos hc98]
                      exact ⟨by rw [hv], N0, rfl⟩
                  · obtain ⟨fs, hr, hrun, hended, hW, hsame⟩ := X0.leave (v := some (.int (0 : Int32))) (fun h => by rw [Bd.returns] at h; cases h)
                    refine ⟨_, _, c57 _ ?_, hrun, hended, _, _, rfl, ?_, ⟨_, rfl⟩, hW, hsame.mono (by decide) (by decide)⟩
                    · show Steps p.tables e below (s₁.setTop (mkF m 98 #[.val (.int p1), .val (.int p2), .val (.int p3), .val (.int p4), .val (.int p5), .val (.int p1), .val (.int (p1 + p2)), .val (.int ((p1 + p2) + p3)), .val (.int (((p1 + p2) + p3) + p4))] [(.int p2)])) _
                      refine XS.ifYes X0.here hx rfl (pc0 := 98) (pc' := 103) rfl (hb hby d2_98) rfl ((if0 _ _).trans (flt hc98).2.2.2) (by decide) (by decide) ?_
                      show Steps p.tables e below (s₁.setTop (mkF m 103 #[.val (.int p1), .val (.int p2), .val (.int p3), .val (.int p4), .val (.int p5), .val (.int p1), .val (.int (p1 + p2)), .val (.int ((p1 + p2) + p3)), .val (.int (((p1 + p2) + p3) + p4))] [])) _
                      refine XS.iconst X0.here hx rfl (hb hby d2_103) ?_
                      show Steps p.tables e below (s₁.setTop (mkF m 104 #[.val (.int p1), .val (.int p2), .val (.int p3), .val (.int p4), .val (.int p5), .val (.int p1), .val (.int (p1 + p2)), .val (.int ((p1 + p2) + p3)), .val (.int (((p1 + p2) + p3) + p4))] [(.int (0 : Int32))])) _
                      exact retI X0 hx Bd.returns (hb hby d2_104) hr
                    · show Q2 Z p1 p2 p3 p4 p5 h0 n0 _ s₁.heap _
                      rw [e0]
                      have hv : (own_exp p1 p2 p3 p4 p5) = (0 : Int32) := by unfold own_exp; rw [if_neg hc22, if_pos hc38, if_neg hc48, if_neg hc54, if_pos hc70, if_neg hc80, if_neg hc86, if_neg hc92, if_neg hc98]
                      exact ⟨by rw [hv], N0, rfl⟩
          · have c58 : ∀ t, Steps p.tables e below (s₁.setTop (mkF m 86 #[.val (.int p1), .val (.int p2), .val (.int p3), .val (.int p4), .val (.int p5), .val (.int p1), .val (.int (p1 + p2)), .val (.int ((p1 + p2) + p3)), .val (.int (((p1 + p2) + p3) + p4))] [(.int p4)])) t → Steps p.tables e below (s₁.setTop (entryFrame m #[(.int p1), (.int p2), (.int p3), (.int p4), (.int p5)] 9)) t := fun t kt => by
              refine c53 _ ?_
              show Steps p.tables e below (s₁.setTop (mkF m 70 #[.val (.int p1), .val (.int p2), .val (.int p3), .val (.int p4), .val (.int p5), .val (.int p1), .val (.int (p1 + p2)), .val (.int ((p1 + p2) + p3)), .val (.int (((p1 + p2) + p3) + p4))] [(.int p4)])) _
              refine XS.ifYes X0.here hx rfl (pc0 := 70) (pc' := 85) rfl (hb hby d2_70) rfl ((if0 _ _).trans (flt hc70).2.2.2) (by decide) (by decide) ?_
              show Steps p.tables e below (s₁.setTop (mkF m 85 #[.val (.int p1), .val (.int p2), .val (.int p3), .val (.int p4), .val (.int p5), .val (.int p1), .val (.int (p1 + p2)), .val (.int ((p1 + p2) + p3)), .val (.int (((p1 + p2) + p3) + p4))] [])) _
              refine XS.iloadN X0.here hx rfl (hb hby d2_85) rfl ?_
              exact kt
            by_cases hc86 : (0 : Int32) < p4
            · obtain ⟨fs, hr, hrun, hended, hW, hsame⟩ := X0.leave (v := some (.int (3 : Int32))) (fun h => by rw [Bd.returns] at h; cases h)
              refine ⟨_, _, c58 _ ?_, hrun, hended, _, _, rfl, ?_, ⟨_, rfl⟩, hW, hsame.mono (by decide) (by decide)⟩
              · show Steps p.tables e below (s₁.setTop (mkF m 86 #[.val (.int p1), .val (.int p2), .val (.int p3), .val (.int p4), .val (.int p5), .val (.int p1), .val (.int (p1 + p2)), .val (.int ((p1 + p2) + p3)), .val (.int (((p1 + p2) + p3) + p4))] [(.int p4)])) _
                refine XS.ifNo X0.here hx rfl (hb hby d2_86) rfl ((if0 _ _).trans (tlt hc86).2.2.2) ?_
                show Steps p.tables e below (s₁.setTop (mkF m 89 #[.val (.int p1), .val (.int p2), .val (.int p3), .val (.int p4), .val (.int p5), .val (.int p1), .val (.int (p1 + p2)), .val (.int ((p1 + p2) + p3)), .val (.int (((p1 + p2) + p3) + p4))] [])) _
                refine XS.iconst X0.here hx rfl (hb hby d2_89) ?_
                show Steps p.tables e below (s₁.setTop (mkF m 90 #[.val (.int p1), .val (.int p2), .val (.int p3), .val (.int p4), .val (.int p5), .val (.int p1), .val (.int (p1 + p2)), .val (.int ((p1 + p2) + p3)), .val (.int (((p1 + p2) + p3) + p4))] [(.int (3 : Int32))])) _
                exact retI X0 hx Bd.returns (hb hby d2_90) hr
              · show Q2 Z p1 p2 p3 p4 p5 h0 n0 _ s₁.heap _
                rw [e0]
                have hv : (own_exp p1 p2 p3 p4 p5) = (3 : Int32) := by unfold own_exp; rw [if_neg hc22, if_pos hc38, if_neg hc48, if_neg hc54, if_neg hc70, if_pos hc86]
                exact ⟨by rw [hv], N0, rfl⟩
            · have c59 : ∀ t, Steps p.tables e below (s₁.setTop (mkF m 92 #[.val (.int p1), .val (.int p2), .val (.int p3), .val (.int p4), .val (.int p5), .val (.int p1), .val (.int (p1 + p2)), .val (.int ((p1 + p2) + p3)), .val (.int (((p1 + p2) + p3) + p4))] [(.int p3)])) t → Steps p.tables e below (s₁.setTop (entryFrame m #[(.int p1), (.int p2), (.int p3), (.int p4), (.int p5)] 9)) t := fun t kt => by
                refine c58 _ ?_
                show Steps p.tables e below (s₁.setTop (mkF m 86 #[.val (.int p1), .val (.int p2), .val (.int p3), .val (.int p4), .val (.int p5), .val (.int p1), .val (.int (p1 + p2)), .val (.int ((p1 + p2) + p3)), .val (.int (((p1 + p2) + p3) + p4))] [(.int p4)])) _
                refine XS.ifYes X0.here hx rfl (pc0 := 86) (pc' := 91) rfl (hb hby d2_86) rfl ((if0 _ _).trans (flt hc86).2.2.2) (by decide) (by decide) ?_
                show Steps p.tables e below (s₁.setTop (mkF m 91 #[.val (.int p1), .val (.int p2), .val (.int p3), .val (.int p4), .val (.int p5), .val (.int p1), .val (.int (p1 + p2)), .val (.int ((p1 + p2) + p3)), .val (.int (((p1 + p2) + p3) + p4))] [])) _
                refine XS.iloadN X0.here hx rfl (hb hby d2_91) rfl ?_
                exact kt
              by_cases hc92 : (0 : Int32) < p3
              · obtain ⟨fs, hr, hrun, hended, hW, hsame⟩ := X0.leave (v := some (.int (2 : Int32))) (fun h => by rw [Bd.returns] at h; cases h)
                refine ⟨_, _, c59 _ ?_, hrun, hended, _, _, rfl, ?_, ⟨_, rfl⟩, hW, hsame.mono (by decide) (by decide)⟩
                · show Steps p.tables e below (s₁.setTop (mkF m 92 #[.val (.int p1), .val (.int p2), .val (.int p3), .val (.int p4), .val (.int p5), .val (.int p1), .val (.int (p1 + p2)), .val (.int ((p1 + p2) + p3)), .val (.int (((p1 + p2) + p3) + p4))] [(.int p3)])) _
                  refine XS.ifNo X0.here hx rfl (hb hby d2_92) rfl ((if0 _ _).trans (tlt hc92).2.2.2) ?_
                  show Steps p.tables e below (s₁.setTop (mkF m 95 #[.val (.int p1), .val (.int p2), .val (.int p3), .val (.int p4), .val (.int p5), .val (.int p1), .val (.int (p1 + p2)), .val (.int ((p1 + p2) + p3)), .val (.int (((p1 + p2) + p3) + p4))] [])) _
                  refine XS.iconst X0.here hx rfl (hb hby d2_95) ?_
                  show Steps p.tables e below (s₁.setTop (mkF m 96 #[.val (.int p1), .val (.int p2), .val (.int p3), .val (.int p4), .val (.int p5), .val (.int p1), .val (.int (p1 + p2)), .val (.int ((p1 + p2) + p3)), .val (.int (((p1 + p2) + p3) + p4))] [(.int (2 : Int32))])) _
                  exact retI X0 hx Bd.returns (hb hby d2_96) hr
                · show Q2 Z p1 p2 p3 p4 p5 h0 n0 _ s₁.heap _
                  rw [e0]
                  have hv : (own_exp p1 p2 p3 p4 p5) = (2 : Int32) := by unfold own_exp; rw [if_neg hc22, if_pos hc38, if_neg hc48, if_neg hc54, if_neg hc70, if_neg hc86, if_pos hc92]
                  exact ⟨by rw [hv], N0, rfl⟩
              · have c60 : ∀ t, Steps p.tables e below (s₁.setTop (mkF m 98 #[.val (.int p1), .val (.int p2), .val (.int p3), .val (.int p4), .val (.int p5), .val (.int p1), .val (.int (p1 + p2)), .val (.int ((p1 + p2) + p3)), .val (.int (((p1 + p2) + p3) + p4))] [(.int p2)])) t → Steps p.tables e below (s₁.setTop (entryFrame m #[(.int p1), (.int p2), (.int p3), (.int p4), (.int p5)] 9)) t := fun t kt => by
                  refine c59 _ ?_
                  show Steps p.tables e below (s₁.setTop (mkF m 92 #[.val (.int p1), .val (.int p2), .val (.int p3), .val (.int p4), .val (.int p5), .val (.int p1), .val (.int (p1 + p2)), .val (.int ((p1 + p2) + p3)), .val (.int (((p1 + p2) + p3) + p4))] [(.int p3)])) _
                  refine XS.ifYes X0.here hx rfl (pc0 := 92) (pc' := 97) rfl (hb hby d2_92) rfl ((if0 _ _).trans (flt hc92).2.2.2) (by decide) (by decide) ?_
                  show Steps p.tables e below (s₁.setTop (mkF m 97 #[.val (.int p1), .val (.int p2), .val (.int p3), .val (.int p4), .val (.int p5), .val (.int p1), .val (.int (p1 + p2)), .val (.int ((p1 + p2) + p3)), .val (.int (((p1 + p2) + p3) + p4))] [])) _
                  refine XS.iloadN X0.here hx rfl (hb hby d2_97) rfl ?_
                  exact kt
                by_cases hc98 : (0 : Int32) < p2
                · obtain ⟨fs, hr, hrun, hended, hW, hsame⟩ := X0.leave (v := some (.int (1 : Int32))) (fun h => by rw [Bd.returns] at h; cases h)
                  refine ⟨_, _, c60 _ ?_, hrun, hended, _, _, rfl, ?_, ⟨_, rfl⟩, hW, hsame.mono (by decide) (by decide)⟩
                  · show Steps p.tables e below (s₁.setTop (mkF m 98 #[.val (.int p1), .val (.int p2), .val (.int p3), .val (.int p4), .val (.int p5), .val (.int p1), .val (.int (p1 + p2)), .val (.int ((p1 + p2) + p3)), .val (.int (((p1 + p2) + p3) + p4))] [(.int p2)])) _
                    refine XS.ifNo X0.here hx rfl (hb hby d2_98) rfl ((if0 _ _).trans (tlt hc98).2.2.2) ?_
                    show Steps p.tables e below (s₁.setTop (mkF m 101 #[.val (.int p1), .val (.int p2), .val (.int p3), .val (.int p4), .val (.int p5), .val (.int p1), .val (.int (p1 + p2)), .val (.int ((p1 + p2) + p3)), .val (.int (((p1 + p2) + p3) + p4))] [])) _
                    refine XS.iconst X0.here hx rfl (hb hby d2_101) ?_
                    show Steps p.tables e below (s₁.setTop (mkF m 102 #[.val (.int p1), .val (.int p2), .val (.int p3), .val (.int p4), .val (.int p5), .val (.int p1), .val (.int (p1 + p2)), .val (.int ((p1 + p2) + p3)), .val (.int (((p1 + p2) + p3) + p4))] [(.int (1 : Int32))])) _
                    exact retI X0 hx Bd.returns (hb hby d2_102) hr
                  · show Q2 Z p1 p2 p3 p4 p5 h0 n0 _ s₁.heap _
                    rw [e0]
                    have hv : (own_exp p1 p2 p3 p4 p5) = (1 : Int32) := by unfold own_exp; rw [if_neg hc22, if_pos hc38, if_neg hc48, if_neg hc54, if_neg hc70, if_neg hc86, if_neg hc92, if_pos hc98]
                    exact ⟨by rw [hv], N0, rfl⟩
                · obtain ⟨fs, hr, hrun, hended, hW, hsame⟩ := X0.leave (v := some (.int (0 : Int32))) (fun h => by rw [Bd.returns] at h; cases h)
                  refine ⟨_, _, c60 _ ?_, hrun, hended, _, _, rfl, ?_, ⟨_, rfl⟩, hW, hsame.mono (by decide) (by decide)⟩
                  · show Steps p.tables e below (s₁.setTop (mkF m 98 #[.val (.int p1), .val (.int p2), .val (.int p3), .val (.int p4), .val (.int p5), .val (.int p1), .val (.int (p1 + p2)), .val (.int ((p1 + p2) + p3)), .val (.int (((p1 + p2) + p3) + p4))] [(.int p2)])) _
                    refine XS.ifYes X0.here hx rfl (pc0 := 98) (pc' := 103) rfl (hb hby d2_98) rfl ((if0 _ _).trans (flt hc98).2.2.2) (by decide) (by decide) ?_
                    show Steps p.tables e below (s₁.setTop (mkF m 103 #[.val (.int p1), .val (.int p2), .val (.int p3), .val (.int p4), .val (.int p5), .val (.int p1), .val (.int (p1 + p2)), .val (.int ((p1 + p2) + p3)), .val (.int (((p1 + p2) + p3) + p4))] [])) _
                    refine XS.iconst X0.here hx rfl (hb hby d2_103) ?_
                    show Steps p.tables e below (s₁.setTop (mkF m 104 #[.val (.int p1), .val (.int p2), .val (.int p3), .val (.int p4), .val (.int p5), .val (.int p1), .val (.int (p1 + p2)), .val (.int ((p1 + p2) + p3)), .val (.int (((p1 + p2) + p3) + p4))] [(.int (0 : Int32))])) _
                    exact retI X0 hx Bd.returns (hb hby d2_104) hr
                  · show Q2 Z p1 p2 p3 p4 p5 h0 n0 _ s₁.heap _
                    rw [e0]
                    have hv : (own_exp p1 p2 p3 p4 p5) = (0 : Int32) := by unfold own_exp; rw [if_neg hc22, if_pos hc38, if_neg hc48, if_neg hc54, if_neg hc70, if_neg hc86, if_neg hc92, if_neg hc98]
                    exact ⟨by rw [hv], N0, rfl⟩
    · have c61 : ∀ t, Steps p.tables e below (s₁.setTop (mkF m 54 #[.val (.int p1), .val (.int p2), .val (.int p3), .val (.int p4), .val (.int p5), .val (.int p1), .val (.int (p1 + p2)), .val (.int ((p1 + p2) + p3)), .val (.int (((p1 + p2) + p3) + p4))] [(.int p3)])) t → Steps p.tables e below (s₁.setTop (entryFrame m #[(.int p1), (.int p2), (.int p3), (.int p4), (.int p5)] 9)) t := fun t kt => by
        refine c41 _ ?_
        show Steps p.tables e below (s₁.setTop (mkF m 38 #[.val (.int p1), .val (.int p2), .val (.int p3), .val (.int p4), .val (.int p5), .val (.int p1), .val (.int (p1 + p2)), .val (.int ((p1 + p2) + p3)), .val (.int (((p1 + p2) + p3) + p4))] [(.int p2)])) _
        refine XS.ifYes X0.here hx rfl (pc0 := 38) (pc' := 53) rfl (hb hby d2_38) rfl ((if0 _ _).trans (flt hc38).2.2.2) (by decide) (by decide) ?_
        show Steps p.tables e below (s₁.setTop (mkF m 53 #[.val (.int p1), .val (.int p2), .val (.int p3), .val (.int p4), .val (.int p5), .val (.int p1), .val (.int (p1 + p2)), .val (.int ((p1 + p2) + p3)), .val (.int (((p1 + p2) + p3) + p4))] [])) _
        refine XS.iloadN X0.here hx rfl (hb hby d2_53) rfl ?_
        exact kt
      by_cases hc54 : (0 : Int32) < p3
      · have c62 : ∀ t, Steps p.tables e below (s₁.setTop (mkF m 64 #[.val (.int p1), .val (.int p2), .val (.int p3), .val (.int p4), .val (.int p5), .val (.int p1), .val (.int (p1 + p2)), .val (.int ((p1 + p2) + p3)), .val (.int (((p1 + p2) + p3) + p4))] [(.int ((16 : Int32) * ((p1 + p2) + p3))), (.int p5)])) t → Steps p.tables e below (s₁.setTop (entryFrame m #[(.int p1), (.int p2), (.int p3), (.int p4), (.int p5)] 9)) t := fun t kt => by
          refine c61 _ ?_
          show Steps p.tables e below (s₁.setTop (mkF m 54 #[.val (.int p1), .val (.int p2), .val (.int p3), .val (.int p4), .val (.int p5), .val (.int p1), .val (.int (p1 + p2)), .val (.int ((p1 + p2) + p3)), .val (.int (((p1 + p2) + p3) + p4))] [(.int p3)])) _
          refine XS.ifNo X0.here hx rfl (hb hby d2_54) rfl ((if0 _ _).trans (tlt hc54).2.2.2) ?_
          show Steps p.tables e below (s₁.setTop (mkF m 57 #[.val (.int p1), .val (.int p2), .val (.int p3), .val (.int p4), .val (.int p5), .val (.int p1), .val (.int (p1 + p2)), .val (.int ((p1 + p2) + p3)), .val (.int (((p1 + p2) + p3) + p4))] [])) _
          refine XS.iload X0.here hx rfl (hb hby d2_57) rfl ?_
          show Steps p.tables e below (s₁.setTop (mkF m 59 #[.val (.int p1), .val (.int p2), .val (.int p3), .val (.int p4), .val (.int p5), .val (.int p1), .val (.int (p1 + p2)), .val (.int ((p1 + p2) + p3)), .val (.int (((p1 + p2) + p3) + p4))] [(.int p5)])) _
          refine XS.bipush X0.here hx rfl (hb hby d2_59) ?_
          show Steps p.tables e below (s₁.setTop (mkF m 61 #[.val (.int p1), .val (.int p2), .val (.int p3), .val (.int p4), .val (.int p5), .val (.int p1), .val (.int (p1 + p2)), .val (.int ((p1 + p2) + p3)), .val (.int (((p1 + p2) + p3) + p4))] [(.int (16 : Int32)), (.int p5)])) _
          refine XS.iload X0.here hx rfl (hb hby d2_61) rfl ?_
          show Steps p.tables e below (s₁.setTop (mkF m 63 #[.val (.int p1), .val (.int p2), .val (.int p3), .val (.int p4), .val (.int p5), .val (.int p1), .val (.int (p1 + p2)), .val (.int ((p1 + p2) + p3)), .val (.int (((p1 + p2) + p3) + p4))] [(.int ((p1 + p2) + p3)), (.int (16 : Int32)), (.int p5)])) _
          refine XS.imul X0.here hx rfl (hb hby d2_63) rfl ?_
          exact kt
        by_cases hc64 : p5 < ((16 : Int32) * ((p1 + p2) + p3))
        · obtain ⟨fs, hr, hrun, hended, hW, hsame⟩ := X0.leave (v := some (.int (2 : Int32))) (fun h => by rw [Bd.returns] at h; cases h)
          refine ⟨_, _, c62 _ ?_, hrun, hended, _, _, rfl, ?_, ⟨_, rfl⟩, hW, hsame.mono (by decide) (by decide)⟩
          · show Steps p.tables e below (s₁.setTop (mkF m 64 #[.val (.int p1), .val (.int p2), .val (.int p3), .val (.int p4), .val (.int p5), .val (.int p1), .val (.int (p1 + p2)), .val (.int ((p1 + p2) + p3)), .val (.int (((p1 + p2) + p3) + p4))] [(.int ((16 : Int32) * ((p1 + p2) + p3))), (.int p5)])) _
            refine XS.icmpNo X0.here hx rfl (hb hby d2_64) rfl (tlt hc64).2.1 ?_
            show Steps p.tables e below (s₁.setTop (mkF m 67 #[.val (.int p1), .val (.int p2), .val (.int p3), .val (.int p4), .val (.int p5), .val (.int p1), .val (.int (p1 + p2)), .val (.int ((p1 + p2) + p3)), .val (.int (((p1 + p2) + p3) + p4))] [])) _
            refine XS.iconst X0.here hx rfl (hb hby d2_67) ?_
            show Steps p.tables e below (s₁.setTop (mkF m 68 #[.val (.int p1), .val (.int p2), .val (.int p3), .val (.int p4), .val (.int p5), .val (.int p1), .val (.int (p1 + p2)), .val (.int ((p1 + p2) + p3)), .val (.int (((p1 + p2) + p3) + p4))] [(.int (2 : Int32))])) _
            exact retI X0 hx Bd.returns (hb hby d2_68) hr
          · show Q2 Z p1 p2 p3 p4 p5 h0 n0 _ s₁.heap _
            rw [e0]
            have hv : (own_exp p1 p2 p3 p4 p5) = (2 : Int32) := by unfold own_exp; rw [if_neg hc22, if_neg hc38, if_pos hc54, if_pos hc64]
            exact ⟨by rw [hv], N0, rfl⟩
        · have c63 : ∀ t, Steps p.tables e below (s₁.setTop (mkF m 70 #[.val (.int p1), .val (.int p2), .val (.int p3), .val (.int p4), .val (.int p5), .val (.int p1), .val (.int (p1 + p2)), .val (.int ((p1 + p2) + p3)), .val (.int (((p1 + p2) + p3) + p4))] [(.int p4)])) t → Steps p.tables e below (s₁.setTop (entryFrame m #[(.int p1), (.int p2), (.int p3), (.int p4), (.int p5)] 9)) t := fun t kt => by
            refine c62 _ ?_
            show Steps p.tables e below (s₁.setTop (mkF m 64 #[.val (.int p1), .val (.int p2), .val (.int p3), .val (.int p4), .val (.int p5), .val (.int p1), .val (.int (p1 + p2)), .val (.int ((p1 + p2) + p3)), .val (.int (((p1 + p2) + p3) + p4))] [(.int ((16 : Int32) * ((p1 + p2) + p3))), (.int p5)])) _
            refine XS.icmpYes X0.here hx rfl (pc0 := 64) (pc' := 69) rfl (hb hby d2_64) rfl (flt hc64).2.1 (by decide) (by decide) ?_
            show Steps p.tables e below (s₁.setTop (mkF m 69 #[.val (.int p1), .val (.int p2), .val (.int p3), .val (.int p4), .val (.int p5), .val (.int p1), .val (.int (p1 + p2)), .val (.int ((p1 + p2) + p3)), .val (.int (((p1 + p2) + p3) + p4))] [])) _
            refine XS.iloadN X0.here hx rfl (hb hby d2_69) rfl ?_
            exact kt
          by_cases hc70 : (0 : Int32) < p4
          · have c64 : ∀ t, Steps p.tables e below (s₁.setTop (mkF m 80 #[.val (.int p1), .val (.int p2), .val (.int p3), .val (.int p4), .val (.int p5), .val (.int p1), .val (.int (p1 + p2)), .val (.int ((p1 + p2) + p3)), .val (.int (((p1 + p2) + p3) + p4))] [(.int ((16 : Int32) * (((p1 + p2) + p3) + p4))), (.int p5)])) t → Steps p.tables e below (s₁.setTop (entryFrame m #[(.int p1), (.int p2), (.int p3), (.int p4), (.int p5)] 9)) t := fun t kt => by
              refine c63 _ ?_
              show Steps p.tables e below (s₁.setTop (mkF m 70 #[.val (.int p1), .val (.int p2), .val (.int p3), .val (.int p4), .val (.int p5), .val (.int p1), .val (.int (p1 + p2)), .val (.int ((p1 + p2) + p3)), .val (.int (((p1 + p2) + p3) + p4))] [(.int p4)])) _
              refine XS.ifNo X0.here hx rfl (hb hby d2_70) rfl ((if0 _ _).trans (tlt hc70).2.2.2) ?_
              show Steps p.tables e below (s₁.setTop (mkF m 73 #[.val (.int p1), .val (.int p2), .val (.int p3), .val (.int p4), .val (.int p5), .val (.int p1), .val (.int (p1 + p2)), .val (.int ((p1 + p2) + p3)), .val (.int (((p1 + p2) + p3) + p4))] [])) _
              refine XS.iload X0.here hx rfl (hb hby d2_73) rfl ?_
              show Steps p.tables e below (s₁.setTop (mkF m 75 #[.val (.int p1), .val (.int p2), .val (.int p3), .val (.int p4), .val (.int p5), .val (.int p1), .val (.int (p1 + p2)), .val (.int ((p1 + p2) + p3)), .val (.int (((p1 + p2) + p3) + p4))] [(.int p5)])) _
              refine XS.bipush X0.here hx rfl (hb hby d2_75) ?_
              show Steps p.tables e below (s₁.setTop (mkF m 77 #[.val (.int p1), .val (.int p2), .val (.int p3), .val (.int p4), .val (.int p5), .val (.int p1), .val (.int (p1 + p2)), .val (.int ((p1 + p2) + p3)), .val (.int (((p1 + p2) + p3) + p4))] [(.int (16 : Int32)), (.int p5)])) _
              refine XS.iload X0.here hx rfl (hb hby d2_77) rfl ?_
              show Steps p.tables e below (s₁.setTop (mkF m 79 #[.val (.int p1), .val (.int p2), .val (.int p3), .val (.int p4), .val (.int p5), .val (.int p1), .val (.int (p1 + p2)), .val (.int ((p1 + p2) + p3)), .val (.int (((p1 + p2) + p3) + p4))] [(.int (((p1 + p2) + p3) + p4)), (.int (16 : Int32)), (.int p5)])) _
              refine XS.imul X0.here hx rfl (hb hby d2_79) rfl ?_
              exact kt
            by_cases hc80 : p5 < ((16 : Int32) * (((p1 + p2) + p3) + p4))
            · obtain ⟨fs, hr, hrun, hended, hW, hsame⟩ := X0.leave (v := some (.int (3 : Int32))) (fun h => by rw [Bd.returns] at h; cases h)
              refine ⟨_, _, c64 _ ?_, hrun, hended, _, _, rfl, ?_, ⟨_, rfl⟩, hW, hsame.mono (by decide) (by decide)⟩
              · show Steps p.tables e below (s₁.setTop (mkF m 80 #[.val (.int p1), .val (.int p2), .val (.int p3), .val (.int p4), .val (.int p5), .val (.int p1), .val (.int (p1 + p2)), .val (.int ((p1 + p2) + p3)), .val (.int (((p1 + p2) + p3) + p4))] [(.int ((16 : Int32) * (((p1 + p2) + p3) + p4))), (.int p5)])) _
                refine XS.icmpNo X0.here hx rfl (hb hby d2_80) rfl (tlt hc80).2.1 ?_
                show Steps p.tables e below (s₁.setTop (mkF m 83 #[.val (.int p1), .val (.int p2), .val (.int p3), .val (.int p4), .val (.int p5), .val (.int p1), .val (.int (p1 + p2)), .val (.int ((p1 + p2) + p3)), .val (.int (((p1 + p2) + p3) + p4))] [])) _
                refine XS.iconst X0.here hx rfl (hb hby d2_83) ?_
                show Steps p.tables e below (s₁.setTop (mkF m 84 #[.val (.int p1), .val (.int p2), .val (.int p3), .val (.int p4), .val (.int p5), .val (.int p1), .val (.int (p1 + p2)), .val (.int ((p1 + p2) + p3)), .val (.int (((p1 + p2) + p3) + p4))] [(.int (3 : Int32))])) _
                exact retI X0 hx Bd.returns (hb hby d2_84) hr
              · show Q2 Z p1 p2 p3 p4 p5 h0 n0 _ s₁.heap _
                rw [e0]
                have hv : (own_exp p1 p2 p3 p4 p5) = (3 : Int32) := by unfold own_exp; rw [if_neg hc22, if_neg hc38, if_pos hc54, if_neg hc64, if_pos hc70, if_pos hc80]
                exact ⟨by rw [hv], N0, rfl⟩
            · have c65 : ∀ t, Steps p.tables e below (s₁.setTop (mkF m 86 #[.val (.int p1), .val (.int p2), .val (.int p3), .val (.int p4), .val (.int p5), .val (.int p1), .val (.int (p1 + p2)), .val (.int ((p1 + p2) + p3)), .val (.int (((p1 + p2) + p3) + p4))] [(.int p4)])) t → Steps p.tables e below (s₁.setTop (entryFrame m #[(.int p1), (.int p2), (.int p3), (.int p4), (.int p5)] 9)) t := fun t kt => by
                refine c64 _ ?_
                show Steps p.tables e below (s₁.setTop (mkF m 80 #[.val (.int p1), .val (.int p2), .val (.int p3), .val (.int p4), .val (.int p5), .val (.int p1), .val (.int (p1 + p2)), .val (.int ((p1 + p2) + p3)), .val (.int (((p1 + p2) + p3) + p4))] [(.int ((16 : Int32) * (((p1 + p2) + p3) + p4))), (.int p5)])) _
                refine XS.icmpYes X0.here hx rfl (pc0 := 80) (pc' := 85) rfl (hb hby d2_80) rfl (flt hc80).2.1 (by decide) (by decide) ?_
                show Steps p.tables e below (s₁.setTop (mkF m 85 #[.val (.int p1), .val (.int p2), .val (.int p3), .val (.int p4), .val (.int p5), .val (.int p1), .val (.int (p1 + p2)), .val (.int ((p1 + p2) + p3)), .val (.int (((p1 + p2) + p3) + p4))] [])) _
                refine XS.iloadN X0.here hx rfl (hb hby d2_85) rfl ?_
                exact kt
              by_cases hc86 : (0 : Int32) < p4
              · obtain ⟨fs, hr, hrun, hended, hW, hsame⟩ := X0.leave (v := some (.int (3 : Int32))) (fun h => by rw [Bd.returns] at h; cases h)
                refine ⟨_, _, c65 _ ?_, hrun, hended, _, _, rfl, ?_, ⟨_, rfl⟩, hW, hsame.mono (by decide) (by decide)⟩
                · show Steps p.tables e below (s₁.setTop (mkF m 86 #[.val (.int p1), .val (.int p2), .val (.int p3), .val (.int p4), .val (.int p5), .val (.int p1), .val (.int (p1 + p2)), .val (.int ((p1 + p2) + p3)), .val (.int (((p1 + p2) + p3) + p4))] [(.int p4)])) _
                  refine XS.ifNo X0.here hx rfl (hb hby d2_86) rfl ((if0 _ _).trans (tlt hc86).2.2.2) ?_
                  show Steps p.tables e below (s₁.setTop (mkF m 89 #[.val (.int p1), .val (.int p2), .val (.int p3), .val (.int p4), .val (.int p5), .val (.int p1), .val (.int (p1 + p2)), .val (.int ((p1 + p2) + p3)), .val (.int (((p1 + p2) + p3) + p4))] [])) _
                  refine XS.iconst X0.here hx rfl (hb hby d2_89) ?_
                  show Steps p.tables e below (s₁.setTop (mkF m 90 #[.val (.int p1), .val (.int p2), .val (.int p3), .val (.int p4), .val (.int p5), .val (.int p1), .val (.int (p1 + p2)), .val (.int ((p1 + p2) + p3)), .val (.int (((p1 + p2) + p3) + p4))] [(.int (3 : Int32))])) _
                  exact retI X0 hx Bd.returns (hb hby d2_90) hr
                · show Q2 Z p1 p2 p3 p4 p5 h0 n0 _ s₁.heap _
                  rw [e0]
                  have hv : (own_exp p1 p2 p3 p4 p5) = (3 : Int32) := by unfold own_exp; rw [if_neg hc22, if_neg hc38, if_pos hc54, if_neg hc64, if_pos hc70, if_neg hc80, if_pos hc86]
                  exact ⟨by rw [hv], N0, rfl⟩
              · have c66 : ∀ t, Steps p.tables e below (s₁.setTop (mkF m 92 #[.val (.int p1), .val (.int p2), .val (.int p3), .val (.int p4), .val (.int p5), .val (.int p1), .val (.int (p1 + p2)), .val (.int ((p1 + p2) + p3)), .val (.int (((p1 + p2) + p3) + p4))] [(.int p3)])) t → Steps p.tables e below (s₁.setTop (entryFrame m #[(.int p1), (.int p2), (.int p3), (.int p4), (.int p5)] 9)) t := fun t kt => by
                  refine c65 _ ?_
                  show Steps p.tables e below (s₁.setTop (mkF m 86 #[.val (.int p1), .val (.int p2), .val (.int p3), .val (.int p4), .val (.int p5), .val (.int p1), .val (.int (p1 + p2)), .val (.int ((p1 + p2) + p3)), .val (.int (((p1 + p2) + p3) + p4))] [(.int p4)])) _
                  refine XS.ifYes X0.here hx rfl (pc0 := 86) (pc' := 91) rfl (hb hby d2_86) rfl ((if0 _ _).trans (flt hc86).2.2.2) (by decide) (by decide) ?_
                  show Steps p.tables e below (s₁.setTop (mkF m 91 #[.val (.int p1), .val (.int p2), .val (.int p3), .val (.int p4), .val (.int p5), .val (.int p1), .val (.int (p1 + p2)), .val (.int ((p1 + p2) + p3)), .val (.int (((p1 + p2) + p3) + p4))] [])) _
                  refine XS.iloadN X0.here hx rfl (hb hby d2_91) rfl ?_
                  exact kt
                by_cases hc92 : (0 : Int32) < p3
                · obtain ⟨fs, hr, hrun, hended, hW, hsame⟩ := X0.leave (v := some (.int (2 : Int32))) (fun h => by rw [Bd.returns] at h; cases h)
                  refine ⟨_, _, c66 _ ?_, hrun, hended, _, _, rfl, ?_, ⟨_, rfl⟩, hW, hsame.mono (by decide) (by decide)⟩
                  · show Steps p.tables e below (s₁.setTop (mkF m 92 #[.val (.int p1), .val (.int p2), .val (.int p3), .val (.int p4), .val (.int p5), .val (.int p1), .val (.int (p1 + p2)), .val (.int ((p1 + p2) + p3)), .val (.int (((p1 + p2) + p3) + p4))] [(.int p3)])) _
                    refine XS.ifNo X0.here hx rfl (hb hby d2_92) rfl ((if0 _ _).trans (tlt hc92).2.2.2) ?_
                    show Steps p.tables e below (s₁.setTop (mkF m 95 #[.val (.int p1), .val (.int p2), .val (.int p3), .val (.int p4), .val (.int p5), .val (.int p1), .val (.int (p1 + p2)), .val (.int ((p1 + p2) + p3)), .val (.int (((p1 + p2) + p3) + p4))] [])) _
                    refine XS.iconst X0.here hx rfl (hb hby d2_95) ?_
                    show Steps p.tables e below (s₁.setTop (mkF m 96 #[.val (.int p1), .val (.int p2), .val (.int p3), .val (.int p4), .val (.int p5), .val (.int p1), .val (.int (p1 + p2)), .val (.int ((p1 + p2) + p3)), .val (.int (((p1 + p2) + p3) + p4))] [(.int (2 : Int32))])) _
                    exact retI X0 hx Bd.returns (hb hby d2_96) hr
                  · show Q2 Z p1 p2 p3 p4 p5 h0 n0 _ s₁.heap _
                    rw [e0]
                    have hv : (own_exp p1 p2 p3 p4 p5) = (2 : Int32) := by unfold own_exp; rw [if_neg hc22, if_neg hc38, if_pos hc54, if_neg hc64, if_pos hc70, if_neg hc80, if_neg hc86, if_pos hc92]
                    exact ⟨by rw [hv], N0, rfl⟩
                · have c67 : ∀ t, Steps p.tables e below (s₁.setTop (mkF m 98 #[.val (.int p1), .val (.int p2), .val (.int p3), .val (.int p4), .val (.int p5), .val (.int p1), .val (.int (p1 + p2)), .val (.int ((p1 + p2) + p3)), .val (.int (((p1 + p2) + p3) + p4))] [(.int p2)])) t → Steps p.tables e below (s₁.setTop (entryFrame m #[(.int p1), (.int p2), (.int p3), (.int p4), (.int p5)] 9)) t := fun t kt => by
                    refine c66 _ ?_
                    show Steps p.tables e below (s₁.setTop (mkF m 92 #[.val (.int p1), .val (.int p2), .val (.int p3), .val (.int p4), .val (.int p5), .val (.int p1), .val (.int (p1 + p2)), .val (.int ((p1 + p2) + p3)), .val (.int (((p1 + p2) + p3) + p4))] [(.int p3)])) _
                    refine XS.ifYes X0.here hx rfl (pc0 := 92) (pc' := 97) rfl (hb hby d2_92) rfl ((if0 _ _).trans (flt hc92).2.2.2) (by decide) (by decide) ?_
                    show Steps p.tables e below (s₁.setTop (mkF m 97 #[.val (.int p1), .val (.int p2), .val (.int p3), .val (.int p4), .val (.int p5), .val (.int p1), .val (.int (p1 + p2)), .val (.int ((p1 + p2) + p3)), .val (.int (((p1 + p2) + p3) + p4))] [])) _
                    refine XS.iloadN X0.here hx rfl (hb hby d2_97) rfl ?_
                    exact kt
                  by_cases hc98 : (0 : Int32) < p2
                  · obtain ⟨fs, hr, hrun, hended, hW, hsame⟩ := X0.leave (v := some (.int (1 : Int32))) (fun h => by rw [Bd.returns] at h; cases h)
                    refine ⟨_, _, c67 _ ?_, hrun, hended, _, _, rfl, ?_, ⟨_, rfl⟩, hW, hsame.mono (by decide) (by decide)⟩
                    · show Steps p.tables e below (s₁.setTop (mkF m 98 #[.val (.int p1), .val (.int p2), .val (.int p3), .val (.int p4), .val (.int p5), .val (.int p1), .val (.int (p1 + p2)), .val (.int ((p1 + p2) + p3)), .val (.int (((p1 + p2) + p3) + p4))] [(.int p2)])) _
                      refine XS.ifNo X0.here hx rfl (hb hby d2_98) rfl ((if0 _ _).trans (tlt hc98).2.2.2) ?_
                      show Steps p.tables e below (s₁.setTop (mkF m 101 #[.val (.int p1), .val (.int p2), .val (.int p3), .val (.int p4), .val (.int p5), .val (.int p1), .val (.int (p1 + p2)), .val (.int ((p1 + p2) + p3)), .val (.int (((p1 + p2) + p3) + p4))] [])) _
                      refine XS.iconst X0.here hx rfl (hb hby d2_101) ?_
                      show Steps p.tables e below (s₁.setTop (mkF m 102 #[.val (.int p1), .val (.int p2), .val (.int p3), .val (.int p4), .val (.int p5), .val (.int p1), .val (.int (p1 + p2)), .val (.int ((p1 + p2) + p3)), .val (.int (((p1 + p2) + p3) + p4))] [(.int (1 : Int32))])) _
                      exact retI X0 hx Bd.returns (hb hby d2_102) hr
                    · show Q2 Z p1 p2 p3 p4 p5 h0 n0 _ s₁.heap _
                      rw [e0]
                      have hv : (own_exp p1 p2 p3 p4 p5) = (1 : Int32) := by unfold own_exp; rw [if_neg hc22, if_neg hc38, if_pos hc54, if_neg hc64, if_pos hc70, if_neg hc80, if_neg hc86, if_neg hc92, if_pos hc98]
                      exact ⟨by rw [hv], N0, rfl⟩
                  · obtain ⟨fs, hr, hrun, hended, hW, hsame⟩ := X0.leave (v := some (.int (0 : Int32))) (fun h => by rw [Bd.returns] at h; cases h)
                    refine ⟨_, _, c67 _ ?_, hrun, hended, _, _, rfl, ?_, ⟨_, rfl⟩, hW, hsame.mono (by decide) (by decide)⟩
                    · show Steps p.tables e below (s₁.setTop (mkF m 98 #[.val (.int p1), .val (.int p2), .val (.int p3), .val (.int p4), .val (.int p5), .val (.int p1), .val (.int (p1 + p2)), .val (.int ((p1 + p2) + p3)), .val (.int (((p1 + p2) + p3) + p4))] [(.int p2)])) _
                      refine XS.ifYes X0.here hx rfl (pc0 := 98) (pc' := 103) rfl (hb hby d2_98) rfl ((if0 _ _).trans (flt hc98).2.2.2) (by decide) (by decide) ?_
                      show Steps p.tables e below (s₁.setTop (mkF m 103 #[.val (.int p1), .val (.int p2), .val (.int p3), .val (.int p4), .val (.int p5), .val (.int p1), .val (.int (p1 + p2)), .val (.int ((p1 + p2) + p3)), .val (.int (((p1 + p2) + p3) + p4))] [])) _
                      refine XS.iconst X0.here hx rfl (hb hby d2_103) ?_
                      show Steps p.tables e below (s₁.setTop (mkF m 104 #[.val (.int p1), .val (.int p2), .val (.int p3), .val (.int p4), .val (.int p5), .val (.int p1), .val (.int (p1 + p2)), .val (.int ((p1 + p2) + p3)), .val (.int (((p1 + p2) + p3) + p4))] [(.int (0 : Int32))])) _
                      exact retI X0 hx Bd.returns (hb hby d2_104) hr
                    · show Q2 Z p1 p2 p3 p4 p5 h0 n0 _ s₁.heap _
                      rw [e0]
                      have hv : (own_exp p1 p2 p3 p4 p5) = (0 : Int32) := by unfold own_exp; rw [if_neg hc22, if_neg hc38, if_pos hc54, if_neg hc64, if_pos hc70, if_neg hc80, if_neg hc86, if_neg hc92, if_neg hc98]
                      exact ⟨by rw [hv], N0, rfl⟩
          · have c68 : ∀ t, Steps p.tables e below (s₁.setTop (mkF m 86 #[.val (.int p1), .val (.int p2), .val (.int p3), .val (.int p4), .val (.int p5), .val (.int p1), .val (.int (p1 + p2)), .val (.int ((p1 + p2) + p3)), .val (.int (((p1 + p2) + p3) + p4))] [(.int p4)])) t → Steps p.tables e below (s₁.setTop (entryFrame m #[(.int p1), (.int p2), (.int p3), (.int p4), (.int p5)] 9)) t := fun t kt => by
              refine c63 _ ?_
              show Steps p.tables e below (s₁.setTop (mkF m 70 #[.val (.int p1), .val (.int p2), .val (.int p3), .val (.int p4), .val (.int p5), .val (.int p1), .val (.int (p1 + p2)), .val (.int ((p1 + p2) + p3)), .val (.int (((p1 + p2) + p3) + p4))] [(.int p4)])) _
              refine XS.ifYes X0.here hx rfl (pc0 := 70) (pc' := 85) rfl (hb hby d2_70) rfl ((if0 _ _).trans (flt hc70).2.2.2) (by decide) (by decide) ?_
              show Steps p.tables e below (s₁.setTop (mkF m 85 #[.val (.int p1), .val (.int p2), .val (.int p3), .val (.int p4), .val (.int p5), .val (.int p1), .val (.int (p1 + p2)), .val (.int ((p1 + p2) + p3)), .val (.int (((p1 + p2) + p3) + p4))] [])) _
              refine XS.iloadN X0.here hx rfl (hb hby d2_85) rfl ?_
              exact kt
            by_cases hc86 : (0 : Int32) < p4
            · obtain ⟨fs, hr, hrun, hended, hW, hsame⟩ := X0.leave (v := some (.int (3 : Int32))) (fun h => by rw [Bd.returns] at h; cases h)
              refine ⟨_, _, c68 _ ?_, hrun, hended, _, _, rfl, ?_, ⟨_, rfl⟩, hW, hsame.mono (by decide) (by decide)⟩
              · show Steps p.tables e below (s₁.setTop (mkF m 86 #[.val (.int p1), .val (.int p2), .val (.int p3), .val (.int p4), .val (.int p5), .val (.int p1), .val (.int (p1 + p2)), .val (.int ((p1 + p2) + p3)), .val (.int (((p1 + p2) + p3) + p4))] [(.int p4)])) _
                refine XS.ifNo X0.here hx rfl (hb hby d2_86) rfl ((if0 _ _).trans (tlt hc86).2.2.2) ?_
                show Steps p.tables e below (s₁.setTop (mkF m 89 #[.val (.int p1), .val (.int p2), .val (.int p3), .val (.int p4), .val (.int p5), .val (.int p1), .val (.int (p1 + p2)), .val (.int ((p1 + p2) + p3)), .val (.int (((p1 + p2) + p3) + p4))] [])) _
                refine XS.iconst X0.here hx rfl (hb hby d2_89) ?_
                show Steps p.tables e below (s₁.setTop (mkF m 90 #[.val (.int p1), .val (.int p2), .val (.int p3), .val (.int p4), .val (.int p5), .val (.int p1), .val (.int (p1 + p2)), .val (.int ((p1 + p2) + p3)), .val (.int (((p1 + p2) + p3) + p4))] [(.int (3 : Int32))])) _
                exact retI X0 hx Bd.returns (hb hby d2_90) hr
              · show Q2 Z p1 p2 p3 p4 p5 h0 n0 _ s₁.heap _
                rw [e0]
                have hv : (own_exp p1 p2 p3 p4 p5) = (3 : Int32) := by unfold own_exp; rw [if_neg hc22, if_neg hc38, if_pos hc54, if_neg hc64, if_neg hc70, if_pos hc86]
                exact ⟨by rw [hv], N0, rfl⟩
            · have c69 : ∀ t, Steps p.tables e below (s₁.setTop (mkF m 92 #[.val (.int p1), .val (.int p2), .val (.int p3), .val (.int p4), .val (.int p5), .val (.int p1), .val (.int (p1 + p2)), .val (.int ((p1 + p2) + p3)), .val (.int (((p1 + p2) + p3) + p4))] [(.int p3)])) t → Steps p.tables e below (s₁.setTop (entryFrame m #[(.int p1), (.int p2), (.int p3), (.int p4), (.int p5)] 9)) t := fun t kt => by
                refine c68 _ ?_
                show Steps p.tables e below (s₁.setTop (mkF m 86 #[.val (.int p1), .val (.int p2), .val (.int p3), .val (.int p4), .val (.int p5), .val (.int p1), .val (.int (p1 + p2)), .val (.int ((p1 + p2) + p3)), .val (.int (((p1 + p2) + p3) + p4))] [(.int p4)])) _
                refine XS.ifYes X0.here hx rfl (pc0 := 86) (pc' := 91) rfl (hb hby d2_86) rfl ((if0 _ _).trans (flt hc86).2.2.2) (by decide) (by decide) ?_
                show Steps p.tables e below (s₁.setTop (mkF m 91 #[.val (.int p1), .val (.int p2), .val (.int p3), .val (.int p4), .val (.int p5), .val (.int p1), .val (.int (p1 + p2)), .val (.int ((p1 + p2) + p3)), .val (.int (((p1 + p2) + p3) + p4))] [])) _
                refine XS.iloadN X0.here hx rfl (hb hby d2_91) rfl ?_
                exact kt
              by_cases hc92 : (0 : Int32) < p3
              · obtain ⟨fs, hr, hrun, hended, hW, hsame⟩ := X0.leave (v := some (.int (2 : Int32))) (fun h => by rw [Bd.returns] at h; cases h)
                refine ⟨_, _, c69 _ ?_, hrun, hended, _, _, rfl, ?_, ⟨_, rfl⟩, hW, hsame.mono (by decide) (by decide)⟩
                · show Steps p.tables e below (s₁.setTop (mkF m 92 #[.val (.int p1), .val (.int p2), .val (.int p3), .val (.int p4), .val (.int p5), .val (.int p1), .val (.int (p1 + p2)), .val (.int ((p1 + p2) + p3)), .val (.int (((p1 + p2) + p3) + p4))] [(.int p3)])) _
                  refine XS.ifNo X0.here hx rfl (hb hby d2_92) rfl ((if0 _ _).trans (tlt hc92).2.2.2) ?_
                  show Steps p.tables e below (s₁.setTop (mkF m 95 #[.val (.int p1), .val (.int p2), .val (.int p3), .val (.int p4), .val (.int p5), .val (.int p1), .val (.int (p1 + p2)), .val (.int ((p1 + p2) + p3)), .val (.int (((p1 + p2) + p3) + p4))] [])) _
                  refine XS.iconst X0.here hx rfl (hb hby d2_95) ?_
                  show Steps p.tables e below (s₁.setTop (mkF m 96 #[.val (.int p1), .val (.int p2), .val (.int p3), .val (.int p4), .val (.int p5), .val (.int p1), .val (.int (p1 + p2)), .val (.int ((p1 + p2) + p3)), .val (.int (((p1 + p2) + p3) + p4))] [(.int (2 : Int32))])) _
                  exact retI X0 hx Bd.returns (hb hby d2_96) hr
                · show Q2 Z p1 p2 p3 p4 p5 h0 n0 _ s₁.heap _
                  rw [e0]
                  have hv : (own_exp p1 p2 p3 p4 p5) = (2 : Int32) := by unfold own_exp; rw [if_neg hc22, if_neg hc38, if_pos hc54, if_neg hc64, if_neg hc70, if_neg hc86, if_pos hc92]
                  exact ⟨by rw [hv], N0, rfl⟩
              · have c70 : ∀ t, Steps p.tables e below (s₁.setTop (mkF m 98 #[.val (.int p1), .val (.int p2), .val (.int p3), .val (.int p4), .val (.int p5), .val (.int p1), .val (.int (p1 + p2)), .val (.int ((p1 + p2) + p3)), .val (.int (((p1 + p2) + p3) + p4))] [(.int p2)])) t → Steps p.tables e below (s₁.setTop (entryFrame m #[(.int p1), (.int p2), (.int p3), (.int p4), (.int p5)] 9)) t := fun t kt => by
                  refine c69 _ ?_
                  show Steps p.tables e below (s₁.setTop (mkF m 92 #[.val (.int p1), .val (.int p2), .val (.int p3), .val (.int p4), .val (.int p5), .val (.int p1), .val (.int (p1 + p2)), .val (.int ((p1 + p2) + p3)), .val (.int (((p1 + p2) + p3) + p4))] [(.int p3)])) _
                  refine XS.ifYes X0.here hx rfl (pc0 := 92) (pc' := 97) rfl (hb hby d2_92) rfl ((if0 _ _).trans (flt hc92).2.2.2) (by decide) (by decide) ?_
                  show Steps p.tables e below (s₁.setTop (mkF m 97 #[.val (.int p1), .val (.int p2), .val (.int p3), .val (.int p4), .val (.int p5), .val (.int p1), .val (.int (p1 + p2)), .val (.int ((p1 + p2) + p3)), .val (.int (((p1 + p2) + p3) + p4))] [])) _
                  refine XS.iloadN X0.here hx rfl (hb hby d2_97) rfl ?_
                  exact kt
                by_cases hc98 : (0 : Int32) < p2
                · obtain ⟨fs, hr, hrun, hended, hW, hsame⟩ := X0.leave (v := some (.int (1 : Int32))) (fun h => by rw [Bd.returns] at h; cases h)
                  refine ⟨_, _, c70 _ ?_, hrun, hended, _, _, rfl, ?_, ⟨_, rfl⟩, hW, hsame.mono (by decide) (by decide)⟩
                  · show Steps p.tables e below (s₁.setTop (mkF m 98 #[.val (.int p1), .val (.int p2), .val (.int p3), .val (.int p4), .val (.int p5), .val (.int p1), .val (.int (p1 + p2)), .val (.int ((p1 + p2) + p3)), .val (.int (((p1 + p2) + p3) + p4))] [(.int p2)])) _
                    refine XS.ifNo X0.here hx rfl (hb hby d2_98) rfl ((if0 _ _).trans (tlt hc98).2.2.2) ?_
                    show Steps p.tables e below (s₁.setTop (mkF m 101 #[.val (.int p1), .val (.int p2), .val (.int p3), .val (.int p4), .val (.int p5), .val (.int p1), .val (.int (p1 + p2)), .val (.int ((p1 + p2) + p3)), .val (.int (((p1 + p2) + p3) + p4))] [])) _
                    refine XS.iconst X0.here hx rfl (hb hby d2_101) ?_
                    show Steps p.tables e below (s₁.setTop (mkF m 102 #[.val (.int p1), .val (.int p2), .val (.int p3), .val (.int p4), .val (.int p5), .val (.int p1), .val (.int (p1 + p2)), .val (.int ((p1 + p2) + p3)), .val (.int (((p1 + p2) + p3) + p4))] [(.int (1 : Int32))])) _
                    exact retI X0 hx Bd.returns (hb hby d2_102) hr
                  · show Q2 Z p1 p2 p3 p4 p5 h0 n0 _ s₁.heap _
                    rw [e0]
                    have hv : (own_exp p1 p2 p3 p4 p5) = (1 : Int32) := by unfold own_exp; rw [if_neg hc22, if_neg hc38, if_pos hc54, if_neg hc64, if_neg hc70, if_neg hc86, if_neg hc92, if_pos hc98]
                    exact ⟨by rw [hv], N0, rfl⟩
                · obtain ⟨fs, hr, hrun, hended, hW, hsame⟩ := X0.leave (v := some (.int (0 : Int32))) (fun h => by rw [Bd.returns] at h; cases h)
                  refine ⟨_, _, c70 _ ?_, hrun, hended, _, _, rfl, ?_, ⟨_, rfl⟩, hW, hsame.mono (by decide) (by decide)⟩
                  · show Steps p.tables e below (s₁.setTop (mkF m 98 #[.val (.int p1), .val (.int p2), .val (.int p3), .val (.int p4), .val (.int p5), .val (.int p1), .val (.int (p1 + p2)), .val (.int ((p1 + p2) + p3)), .val (.int (((p1 + p2) + p3) + p4))] [(.int p2)])) _
                    refine XS.ifYes X0.here hx rfl (pc0 := 98) (pc' := 103) rfl (hb hby d2_98) rfl ((if0 _ _).trans (flt hc98).2.2.2) (by decide) (by decide) ?_
                    show Steps p.tables e below (s₁.setTop (mkF m 103 #[.val (.int p1), .val (.int p2), .val (.int p3), .val (.int p4), .val (.int p5), .val (.int p1), .val (.int (p1 + p2)), .val (.int ((p1 + p2) + p3)), .val (.int (((p1 + p2) + p3) + p4))] [])) _
                    refine XS.iconst X0.here hx rfl (hb hby d2_103) ?_
                    show Steps p.tables e below (s₁.setTop (mkF m 104 #[.val (.int p1), .val (.int p2), .val (.int p3), .val (.int p4), .val (.int p5), .val (.int p1), .val (.int (p1 + p2)), .val (.int ((p1 + p2) + p3)), .val (.int (((p1 + p2) + p3) + p4))] [(.int (0 : Int32))])) _
                    exact retI X0 hx Bd.returns (hb hby d2_104) hr
                  · show Q2 Z p1 p2 p3 p4 p5 h0 n0 _ s₁.heap _
                    rw [e0]
                    have hv : (own_exp p1 p2 p3 p4 p5) = (0 : Int32) := by unfold own_exp; rw [if_neg hc22, if_neg hc38, if_pos hc54, if_neg hc64, if_neg hc70, if_neg hc86, if_neg hc92, if_neg hc98]
                    exact ⟨by rw [hv], N0, rfl⟩
      · have c71 : ∀ t, Steps p.tables e below (s₁.setTop (mkF m 70 #[.val (.int p1), .val (.int p2), .val (.int p3), .val (.int p4), .val (.int p5), .val (.int p1), .val (.int (p1 + p2)), .val (.int ((p1 + p2) + p3)), .val (.int (((p1 + p2) + p3) + p4))] [(.int p4)])) t → Steps p.tables e below (s₁.setTop (entryFrame m #[(.int p1), (.int p2), (.int p3), (.int p4), (.int p5)] 9)) t := fun t kt => by
          refine c61 _ ?_
          show Steps p.tables e below (s₁.setTop (mkF m 54 #[.val (.int p1), .val (.int p2), .val (.int p3), .val (.int p4), .val (.int p5), .val (.int p1), .val (.int (p1 + p2)), .val (.int ((p1 + p2) + p3)), .val (.int (((p1 + p2) + p3) + p4))] [(.int p3)])) _
          refine XS.ifYes X0.here hx rfl (pc0 := 54) (pc' := 69) rfl (hb hby d2_54) rfl ((if0 _ _).trans (flt hc54).2.2.2) (by decide) (by decide) ?_
          show Steps p.tables e below (s₁.setTop (mkF m 69 #[.val (.int p1), .val (.int p2), .val (.int p3), .val (.int p4), .val (.int p5), .val (.int p1), .val (.int (p1 + p2)), .val (.int ((p1 + p2) + p3)), .val (.int (((p1 + p2) + p3) + p4))] [])) _
          refine XS.iloadN X0.here hx rfl (hb hby d2_69) rfl ?_
          exact kt
        by_cases hc70 : (0 : Int32) < p4
        · have c72 : ∀ t, Steps p.tables e below (s₁.setTop (mkF m 80 #[.val (.int p1), .val (.int p2), .val (.int p3), .val (.int p4), .val (.int p5), .val (.int p1), .val (.int (p1 + p2)), .val (.int ((p1 + p2) + p3)), .val (.int (((p1 + p2) + p3) + p4))] [(.int ((16 : Int32) * (((p1 + p2) + p3) + p4))), (.int p5)])) t → Steps p.tables e below (s₁.setTop (entryFrame m #[(.int p1), (.int p2), (.int p3), (.int p4), (.int p5)] 9)) t := fun t kt => by
            refine c71 _ ?_
            show Steps p.tables e below (s₁.setTop (mkF m 70 #[.val (.int p1), .val (.int p2), .val (.int p3), .val (.int p4), .val (.int p5), .val (.int p1), .val (.int (p1 + p2)), .val (.int ((p1 + p2) + p3)), .val (.int (((p1 + p2) + p3) + p4))] [(.int p4)])) _
            refine XS.ifNo X0.here hx rfl (hb hby d2_70) rfl ((if0 _ _).trans (tlt hc70).2.2.2) ?_
            show Steps p.tables e below (s₁.setTop (mkF m 73 #[.val (.int p1), .val (.int p2), .val (.int p3), .val (.int p4), .val (.int p5), .val (.int p1), .val (.int (p1 + p2)), .val (.int ((p1 + p2) + p3)), .val (.int (((p1 + p2) + p3) + p4))] [])) _
            refine XS.iload X0.here hx rfl (hb hby d2_73) rfl ?_
            show Steps p.tables e below (s₁.setTop (mkF m 75 #[.val (.int p1), .val (.int p2), .val (.int p3), .val (.int p4), .val (.int p5), .val (.int p1), .val (.int (p1 + p2)), .val (.int ((p1 + p2) + p3)), .val (.int (((p1 + p2) + p3) + p4))] [(.int p5)])) _
            refine XS.bipush X0.here hx rfl (hb hby d2_75) ?_
            show Steps p.tables e below (s₁.setTop (mkF m 77 #[.val (.int p1), .val (.int p2), .val (.int p3), .val (.int p4), .val (.int p5), .val (.int p1), .val (.int (p1 + p2)), .val (.int ((p1 + p2) + p3)), .val (.int (((p1 + p2) + p3) + p4))] [(.int (16 : Int32)), (.int p5)])) _
            refine XS.iload X0.here hx rfl (hb hby d2_77) rfl ?_
            show Steps p.tables e below (s₁.setTop (mkF m 79 #[.val (.int p1), .val (.int p2), .val (.int p3), .val (.int p4), .val (.int p5), .val (.int p1), .val (.int (p1 + p2)), .val (.int ((p1 + p2) + p3)), .val (.int (((p1 + p2) + p3) + p4))] [(.int (((p1 + p2) + p3) + p4)), (.int (16 : Int32)), (.int p5)])) _
            refine XS.imul X0.here hx rfl (hb hby d2_79) rfl ?_
            exact kt
          by_cases hc80 : p5 < ((16 : Int32) * (((p1 + p2) + p3) + p4))
          · obtain ⟨fs, hr, hrun, hended, hW, hsame⟩ := X0.leave (v := some (.int (3 : Int32))) (fun h => by rw [Bd.returns] at h; cases h)
            refine ⟨_, _, c72 _ ?_, hrun, hended, _, _, rfl, ?_, ⟨_, rfl⟩, hW, hsame.mono (by decide) (by decide)⟩
            · show Steps p.tables e below (s₁.setTop (mkF m 80 #[.val (.int p1), .val (.int p2), .val (.int p3), .val (.int p4), .val (.int p5), .val (.int p1), .val (.int (p1 + p2)), .val (.int ((p1 + p2) + p3)), .val (.int (((p1 + p2) + p3) + p4))] [(.int ((16 : Int32) * (((p1 + p2) + p3) + p4))), (.int p5)])) _
              refine XS.icmpNo X0.here hx rfl (hb hby d2_80) rfl (tlt hc80).2.1 ?_
              show Steps p.tables e below (s₁.setTop (mkF m 83 #[.val (.int p1), .val (.int p2), .val (.int p3), .val (.int p4), .val (.int p5), .val (.int p1), .val (.int (p1 + p2)), .val (.int ((p1 + p2) + p3)), .val (.int (((p1 + p2) + p3) + p4))] [])) _
              refine XS.iconst X0.here hx rfl (hb hby d2_83) ?_
              show Steps p.tables e below (s₁.setTop (mkF m 84 #[.val (.int p1), .val (.int p2), .val (.int p3), .val (.int p4), .val (.int p5), .val (.int p1), .val (.int (p1 + p2)), .val (.int ((p1 + p2) + p3)), .val (.int (((p1 + p2) + p3) + p4))] [(.int (3 : Int32))])) _
              exact retI X0 hx Bd.returns (hb hby d2_84) hr
            · show Q2 Z p1 p2 p3 p4 p5 h0 n0 _ s₁.heap _
              rw [e0]
              have hv : (own_exp p1 p2 p3 p4 p5) = (3 : Int32) := by unfold own_exp; rw [if_neg hc22, if_neg hc38, if_neg hc54, if_pos hc70, if_pos hc80]
              exact ⟨by rw [hv], N0, rfl⟩
          · have c73 : ∀ t, Steps p.tables e below (s₁.setTop (mkF m 86 #[.val (.int p1), .val (.int p2), .val (.int p3), .val (.int p4), .val (.int p5), .val (.int p1), .val (.int (p1 + p2)), .val (.int ((p1 + p2) + p3)), .val (.int (((p1 + p2) + p3) + p4))] [(.int p4)])) t → Steps p.tables e below (s₁.setTop (entryFrame m #[(.int p1), (.int p2), (.int p3), (.int p4), (.int p5)] 9)) t := fun t kt => by
              refine c72 _ ?_
              show Steps p.tables e below (s₁.setTop (mkF m 80 #[.val (.int p1), .val (.int p2), .val (.int p3), .val (.int p4), .val (.int p5), .val (.int p1), .val (.int (p1 + p2)), .val (.int ((p1 + p2) + p3)), .val (.int (((p1 + p2) + p3) + p4))] [(.int ((16 : Int32) * (((p1 + p2) + p3) + p4))), (.int p5)])) _
              refine XS.icmpYes X0.here hx rfl (pc0 := 80) (pc' := 85) rfl (hb hby d2_80) rfl (flt hc80).2.1 (by decide) (by decide) ?_
              show Steps p.tables e below (s₁.setTop (mkF m 85 #[.val (.int p1), .val (.int p2), .val (.int p3), .val (.int p4), .val (.int p5), .val (.int p1), .val (.int (p1 + p2)), .val (.int ((p1 + p2) + p3)), .val (.int (((p1 + p2) + p3) + p4))] [])) _
              refine XS.iloadN X0.here hx rfl (hb hby d2_85) rfl ?_
              exact kt
            by_cases hc86 : (0 : Int32) < p4
            · obtain ⟨fs, hr, hrun, hended, hW, hsame⟩ := X0.leave (v := some (.int (3 : Int32))) (fun h => by rw [Bd.returns] at h; cases h)
              refine ⟨_, _, c73 _ ?_, hrun, hended, _, _, rfl, ?_, ⟨_, rfl⟩, hW, hsame.mono (by decide) (by decide)⟩
              · show Steps p.tables e below (s₁.setTop (mkF m 86 #[.val (.int p1), .val (.int p2), .val (.int p3), .val (.int p4), .val (.int p5), .val (.int p1), .val (.int (p1 + p2)), .val (.int ((p1 + p2) + p3)), .val (.int (((p1 + p2) + p3) + p4))] [(.int p4)])) _
                refine XS.ifNo X0.here hx rfl (hb hby d2_86) rfl ((if0 _ _).trans (tlt hc86).2.2.2) ?_
                show Steps p.tables e below (s₁.setTop (mkF m 89 #[.val (.int p1), .val (.int p2), .val (.int p3), .val (.int p4), .val (.int p5), .val (.int p1), .val (.int (p1 + p2)), .val (.int ((p1 + p2) + p3)), .val (.int (((p1 + p2) + p3) + p4))] [])) _
                refine XS.iconst X0.here hx rfl (hb hby d2_89) ?_
                show Steps p.tables e below (s₁.setTop (mkF m 90 #[.val (.int p1), .val (.int p2), .val (.int p3), .val (.int p4), .val (.int p5), .val (.int p1), .val (.int (p1 + p2)), .val (.int ((p1 + p2) + p3)), .val (.int (((p1 + p2) + p3) + p4))] [(.int (3 : Int32))])) _
                exact retI X0 hx Bd.returns (hb hby d2_90) hr
              · show Q2 Z p1 p2 p3 p4 p5 h0 n0 _ s₁.heap _
                rw [e0]
                have hv : (own_exp p1 p2 p3 p4 p5) = (3 : Int32) := by unfold own_exp; rw [if_neg hc22, if_neg hc38, if_neg hc54, if_pos hc70, if_neg hc80, if_pos hc86]
                exact ⟨by rw [hv], N0, rfl⟩
            · have c74 : ∀ t, Steps p.tables e below (s₁.setTop (mkF m 92 #[.val (.int p1), .val (.int p2), .val (.int p3), .val (.int p4), .val (.int p5), .val (.int p1), .val (.int (p1 + p2)), .val (.int ((p1 + p2) + p3)), .val (.int (((p1 + p2) + p3) + p4))] [(.int p3)])) t → Steps p.tables e below (s₁.setTop (entryFrame m #[(.int p1), (.int p2), (.int p3), (.int p4), (.int p5)] 9)) t := fun t kt => by
                refine c73 _ ?_
                show Steps p.tables e below (s₁.setTop (mkF m 86 #[.val (.int p1), .val (.int p2), .val (.int p3), .val (.int p4), .val (.int p5), .val (.int p1), .val (.int (p1 + p2)), .val (.int ((p1 + p2) + p3)), .val (.int (((p1 + p2) + p3) + p4))] [(.int p4)])) _
                refine XS.ifYes X0.here hx rfl (pc0 := 86) (pc' := 91) rfl (hb hby d2_86) rfl ((if0 _ _).trans (flt hc86).2.2.2) (by decide) (by decide) ?_
                show Steps p.tables e below (s₁.setTop (mkF m 91 #[.val (.int p1), .val (.int p2), .val (.int p3), .val (.int p4), .val (.int p5), .val (.int p1), .val (.int (p1 + p2)), .val (.int ((p1 + p2) + p3)), .val (.int (((p1 + p2) + p3) + p4))] [])) _
                refine XS.iloadN X0.here hx rfl (hb hby d2_91) rfl ?_
                exact kt
              by_cases hc92 : (0 : Int32) < p3
              · obtain ⟨fs, hr, hrun, hended, hW, hsame⟩ := X0.leave (v := some (.int (2 : Int32))) (fun h => by rw [Bd.returns] at h; cases h)
                refine ⟨_, _, c74 _ ?_, hrun, hended, _, _, rfl, ?_, ⟨_, rfl⟩, hW, hsame.mono (by decide) (by decide)⟩
                · show Steps p.tables e below (s₁.setTop (mkF m 92 #[.val (.int p1), .val (.int p2), .val (.int p3), .val (.int p4), .val (.int p5), .val (.int p1), .val (.int (p1 + p2)), .val (.int ((p1 + p2) + p3)), .val (.int (((p1 + p2) + p3) + p4))] [(.int p3)])) _
                  refine XS.ifNo X0.here hx rfl (hb hby d2_92) rfl ((if0 _ _).trans (tlt hc92).2.2.2) ?_
                  show Steps p.tables e below (s₁.setTop (mkF m 95 #[.val (.int p1), .val (.int p2), .val (.int p3), .val (.int p4), .val (.int p5), .val (.int p1), .val (.int (p1 + p2)), .val (.int ((p1 + p2) + p3)), .val (.int (((p1 + p2) + p3) + p4))] [])) _
                  refine XS.iconst X0.here hx rfl (hb hby d2_95) ?_
                  show Steps p.tables e below (s₁.setTop (mkF m 96 #[.val (.int p1), .val (.int p2), .val (.int p3), .val (.int p4), .val (.int p5), .val (.int p1), .val (.int (p1 + p2)), .val (.int ((p1 + p2) + p3)), .val (.int (((p1 + p2) + p3) + p4))] [(.int (2 : Int32))])) _
                  exact retI X0 hx Bd.returns (hb hby d2_96) hr
                · show Q2 Z p1 p2 p3 p4 p5 h0 n0 _ s₁.heap _
                  rw [e0]
                  have hv : (own_exp p1 p2 p3 p4 p5) = (2 : Int32) := by unfold own_exp; rw [if_neg hc22, if_neg hc38, if_neg hc54, if_pos hc70, if_neg hc80, if_neg hc86, if_pos hc92]
                  exact ⟨by rw [hv], N0, rfl⟩
              · have c75 : ∀ t, Steps p.tables e below (s₁.setTop (mkF m 98 #[.val (.int p1), .val (.int p2), .val (.int p3), .val (.int p4), .val (.int p5), .val (.int p1), .val (.int (p1 + p2)), .val (.int ((p1 + p2) + p3)), .val (.int (((p1 + p2) + p3) + p4))] [(.int p2)])) t → Steps p.tables e below (s₁.setTop (entryFrame m #[(.int p1), (.int p2), (.int p3), (.int p4), (.int p5)] 9)) t := fun t kt => by
                  refine c74 _ ?_
                  show Steps p.tables e below (s₁.setTop (mkF m 92 #[.val (.int p1), .val (.int p2), .val (.int p3), .val (.int p4), .val (.int p5), .val (.int p1), .val (.int (p1 + p2)), .val (.int ((p1 + p2) + p3)), .val (.int (((p1 + p2) + p3) + p4))] [(.int p3)])) _
                  refine XS.ifYes X0.here hx rfl (pc0 := 92) (pc' := 97) rfl (hb hby d2_92) rfl ((if0 _ _).trans (flt hc92).2.2.2) (by decide) (by decide) ?_
                  show Steps p.tables e below (s₁.setTop (mkF m 97 #[.val (.int p1), .val (.int p2), .val (.int p3), .val (.int p4), .val (.int p5), .val (.int p1), .val (.int (p1 + p2)), .val (.int ((p1 + p2) + p3)), .val (.int (((p1 + p2) + p3) + p4))] [])) _
                  refine XS.iloadN X0.here hx rfl (hb hby d2_97) rfl ?_
                  exact kt
                by_cases hc98 : (0 : Int32) < p2
                · obtain ⟨fs, hr, hrun, hended, hW, hsame⟩ := X0.leave (v := some (.int (1 : Int32))) (fun h => by rw [Bd.returns] at h; cases h)
                  refine ⟨_, _, c75 _ ?_, hrun, hended, _, _, rfl, ?_, ⟨_, rfl⟩, hW, hsame.mono (by decide) (by decide)⟩
                  · show Steps p.tables e below (s₁.setTop (mkF m 98 #[.val (.int p1), .val (.int p2), .val (.int p3), .val (.int p4), .val (.int p5), .val (.int p1), .val (.int (p1 + p2)), .val (.int ((p1 + p2) + p3)), .val (.int (((p1 + p2) + p3) + p4))] [(.int p2)])) _
                    refine XS.ifNo X0.here hx rfl (hb hby d2_98) rfl ((if0 _ _).trans (tlt hc98).2.2.2) ?_
                    show Steps p.tables e below (s₁.setTop (mkF m 101 #[.val (.int p1), .val (.int p2), .val (.int p3), .val (.int p4), .val (.int p5), .val (.int p1), .val (.int (p1 + p2)), .val (.int ((p1 + p2) + p3)), .val (.int (((p1 + p2) + p3) + p4))] [])) _
                    refine XS.iconst X0.here hx rfl (hb hby d2_101) ?_
                    show Steps p.tables e below (s₁.setTop (mkF m 102 #[.val (.int p1), .val (.int p2), .val (.int p3), .val (.int p4), .val (.int p5), .val (.int p1), .val (.int (p1 + p2)), .val (.int ((p1 + p2) + p3)), .val (.int (((p1 + p2) + p3) + p4))] [(.int (1 : Int32))])) _
                    exact retI X0 hx Bd.returns (hb hby d2_102) hr
                  · show Q2 Z p1 p2 p3 p4 p5 h0 n0 _ s₁.heap _
                    rw [e0]
                    have hv : (own_exp p1 p2 p3 p4 p5) = (1 : Int32) := by unfold own_exp; rw [if_neg hc22, if_neg hc38, if_neg hc54, if_pos hc70, if_neg hc80, if_neg hc86, if_neg hc92, if_pos hc98]
                    exact ⟨by rw [hv], N0, rfl⟩
                · obtain ⟨fs, hr, hrun, hended, hW, hsame⟩ := X0.leave (v := some (.int (0 : Int32))) (fun h => by rw [Bd.returns] at h; cases h)
                  refine ⟨_, _, c75 _ ?_, hrun, hended, _, _, rfl, ?_, ⟨_, rfl⟩, hW, hsame.mono (by decide) (by decide)⟩
                  · show Steps p.tables e below (s₁.setTop (mkF m 98 #[.val (.int p1), .val (.int p2), .val (.int p3), .val (.int p4), .val (.int p5), .val (.int p1), .val (.int (p1 + p2)), .val (.int ((p1 + p2) + p3)), .val (.int (((p1 + p2) + p3) + p4))] [(.int p2)])) _
                    refine XS.ifYes X0.here hx rfl (pc0 := 98) (pc' := 103) rfl (hb hby d2_98) rfl ((if0 _ _).trans (flt hc98).2.2.2) (by decide) (by decide) ?_
                    show Steps p.tables e below (s₁.setTop (mkF m 103 #[.val (.int p1), .val (.int p2), .val (.int p3), .val (.int p4), .val (.int p5), .val (.int p1), .val (.int (p1 + p2)), .val (.int ((p1 + p2) + p3)), .val (.int (((p1 + p2) + p3) + p4))] [])) _
                    refine XS.iconst X0.here hx rfl (hb hby d2_103) ?_
                    show Steps p.tables e below (s₁.setTop (mkF m 104 #[.val (.int p1), .val (.int p2), .val (.int p3), .val (.int p4), .val (.int p5), .val (.int p1), .val (.int (p1 + p2)), .val (.int ((p1 + p2) + p3)), .val (.int (((p1 + p2) + p3) + p4))] [(.int (0 : Int32))])) _
                    exact retI X0 hx Bd.returns (hb hby d2_104) hr
                  · show Q2 Z p1 p2 p3 p4 p5 h0 n0 _ s₁.heap _
                    rw [e0]
                    have hv : (own_exp p1 p2 p3 p4 p5) = (0 : Int32) := by unfold own_exp; rw [if_neg hc22, if_neg hc38, if_neg hc54, if_pos hc70, if_neg hc80, if_neg hc86, if_neg hc92, if_neg hc98]
                    exact ⟨by rw [hv], N0, rfl⟩
        · have c76 : ∀ t, Steps p.tables e below (s₁.setTop (mkF m 86 #[.val (.int p1), .val (.int p2), .val (.int p3), .val (.int p4), .val (.int p5), .val (.int p1), .val (.int (p1 + p2)), .val (.int ((p1 + p2) + p3)), .val (.int (((p1 + p2) + p3) + p4))] [(.int p4)])) t → Steps p.tables e below (s₁.setTop (entryFrame m #[(.int p1), (.int p2), (.int p3), (.int p4), (.int p5)] 9)) t := fun t kt => by
            refine c71 _ ?_
            show Steps p.tables e below (s₁.setTop (mkF m 70 #[.val (.int p1), .val (.int p2), .val (.int p3), .val (.int p4), .val (.int p5), .val (.int p1), .val (.int (p1 + p2)), .val (.int ((p1 + p2) + p3)), .val (.int (((p1 + p2) + p3) + p4))] [(.int p4)])) _
            refine XS.ifYes X0.here hx rfl (pc0 := 70) (pc' := 85) rfl (hb hby d2_70) rfl ((if0 _ _).trans (flt hc70).2.2.2) (by decide) (by decide) ?_
            show Steps p.tables e below (s₁.setTop (mkF m 85 #[.val (.int p1), .val (.int p2), .val (.int p3), .val (.int p4), .val (.int p5), .val (.int p1), .val (.int (p1 + p2)), .val (.int ((p1 + p2) + p3)), .val (.int (((p1 + p2) + p3) + p4))] [])) _
            refine XS.iloadN X0.here hx rfl (hb hby d2_85) rfl ?_
            exact kt
          by_cases hc86 : (0 : Int32) < p4
          · obtain ⟨fs, hr, hrun, hended, hW, hsame⟩ := X0.leave (v := some (.int (3 : Int32))) (fun h => by rw [Bd.returns] at h; cases h)
            refine ⟨_, _, c76 _ ?_, hrun, hended, _, _, rfl, ?_, ⟨_, rfl⟩, hW, hsame.mono (by decide) (by decide)⟩
            · show Steps p.tables e below (s₁.setTop (mkF m 86 #[.val (.int p1), .val (.int p2), .val (.int p3), .val (.int p4), .val (.int p5), .val (.int p1), .val (.int (p1 + p2)), .val (.int ((p1 + p2) + p3)), .val (.int (((p1 + p2) + p3) + p4))] [(.int p4)])) _
              refine XS.ifNo X0.here hx rfl (hb hby d2_86) rfl ((if0 _ _).trans (tlt hc86).2.2.2) ?_
              show Steps p.tables e below (s₁.setTop (mkF m 89 #[.val (.int p1), .val (.int p2), .val (.int p3), .val (.int p4), .val (.int p5), .val (.int p1), .val (.int (p1 + p2)), .val (.int ((p1 + p2) + p3)), .val (.int (((p1 + p2) + p3) + p4))] [])) _
              refine XS.iconst X0.here hx rfl (hb hby d2_89) ?_
              show Steps p.tables e below (s₁.setTop (mkF m 90 #[.val (.int p1), .val (.int p2), .val (.int p3), .val (.int p4), .val (.int p5), .val (.int p1), .val (.int (p1 + p2)), .val (.int ((p1 + p2) + p3)), .val (.int (((p1 + p2) + p3) + p4))] [(.int (3 : Int32))])) _
              exact retI X0 hx Bd.returns (hb hby d2_90) hr
            · show Q2 Z p1 p2 p3 p4 p5 h0 n0 _ s₁.heap _
              rw [e0]
              have hv : (own_exp p1 p2 p3 p4 p5) = (3 : Int32) := by unfold own_exp; rw [if_neg hc22, if_neg hc38, if_neg hc54, if_neg hc70, if_pos hc86]
              exact ⟨by rw [hv], N0, rfl⟩
          · have c77 : ∀ t, Steps p.tables e below (s₁.setTop (mkF m 92 #[.val (.int p1), .val (.int p2), .val (.int p3), .val (.int p4), .val (.int p5), .val (.int p1), .val (.int (p1 + p2)), .val (.int ((p1 + p2) + p3)), .val (.int (((p1 + p2) + p3) + p4))] [(.int p3)])) t → Steps p.tables e below (s₁.setTop (entryFrame m #[(.int p1), (.int p2), (.int p3), (.int p4), (.int p5)] 9)) t := fun t kt => by
              refine c76 _ ?_
              show Steps p.tables e below (s₁.setTop (mkF m 86 #[.val (.int p1), .val (.int p2), .val (.int p3), .val (.int p4), .val (.int p5), .val (.int p1), .val (.int (p1 + p2)), .val (.int ((p1 + p2) + p3)), .val (.int (((p1 + p2) + p3) + p4))] [(.int p4)])) _
              refine XS.ifYes X0.here hx rfl (pc0 := 86) (pc' := 91) rfl (hb hby d2_86) rfl ((if0 _ _).trans (flt hc86).2.2.2) (by decide) (by decide) ?_
              show Steps p.tables e below (s₁.setTop (mkF m 91 #[.val (.int p1), .val (.int p2), .val (.int p3), .val (.int p4), .val (.int p5), .val (.int p1), .val (.int (p1 + p2)), .val (.int ((p1 + p2) + p3)), .val (.int (((p1 + p2) + p3) + p4))] [])) _
              refine XS.iloadN X0.here hx rfl (hb hby d2_91) rfl ?_
              exact kt
            by_cases hc92 : (0 : Int32) < p3
            · obtain ⟨fs, hr, hrun, hended, hW, hsame⟩ := X0.leave (v := some (.int (2 : Int32))) (fun h => by rw [Bd.returns] at h; cases h)
              refine ⟨_, _, c77 _ ?_, hrun, hended, _, _, rfl, ?_, ⟨_, rfl⟩, hW, hsame.mono (by decide) (by decide)⟩
              · show Steps p.tables e below (s₁.setTop (mkF m 92 #[.val (.int p1), .val (.int p2), .val (.int p3), .val (.int p4), .val (.int p5), .val (.int p1), .val (.int (p1 + p2)), .val (.int ((p1 + p2) + p3)), .val (.int (((p1 + p2) + p3) + p4))] [(.int p3)])) _
                refine XS.ifNo X0.here hx rfl (hb hby d2_92) rfl ((if0 _ _).trans (tlt hc92).2.2.2) ?_
                show Steps p.tables e below (s₁.setTop (mkF m 95 #[.val (.int p1), .val (.int p2), .val (.int p3), .val (.int p4), .val (.int p5), .val (.int p1), .val (.int (p1 + p2)), .val (.int ((p1 + p2) + p3)), .val (.int (((p1 + p2) + p3) + p4))] [])) _
                refine XS.iconst X0.here hx rfl (hb hby d2_95) ?_
                show Steps p.tables e below (s₁.setTop (mkF m 96 #[.val (.int p1), .val (.int p2), .val (.int p3), .val (.int p4), .val (.int p5), .val (.int p1), .val (.int (p1 + p2)), .val (.int ((p1 + p2) + p3)), .val (.int (((p1 + p2) + p3) + p4))] [(.int (2 : Int32))])) _
                exact retI X0 hx Bd.returns (hb hby d2_96) hr
              · show Q2 Z p1 p2 p3 p4 p5 h0 n0 _ s₁.heap _
                rw [e0]
                have hv : (own_exp p1 p2 p3 p4 p5) = (2 : Int32) := by unfold own_exp; rw [if_neg hc22, if_neg hc38, if_neg hc54, if_neg hc70, if_neg hc86, if_pos hc92]
                exact ⟨by rw [hv], N0, rfl⟩
            · have c78 : ∀ t, Steps p.tables e below (s₁.setTop (mkF m 98 #[.val (.int p1), .val (.int p2), .val (.int p3), .val (.int p4), .val (.int p5), .val (.int p1), .val (.int (p1 + p2)), .val (.int ((p1 + p2) + p3)), .val (.int (((p1 + p2) + p3) + p4))] [(.int p2)])) t → Steps p.tables e below (s₁.setTop (entryFrame m #[(.int p1), (.int p2), (.int p3), (.int p4), (.int p5)] 9)) t := fun t kt => by
                refine c77 _ ?_
                show Steps p.tables e below (s₁.setTop (mkF m 92 #[.val (.int p1), .val (.int p2), .val (.int p3), .val (.int p4), .val (.int p5), .val (.int p1), .val (.int (p1 + p2)), .val (.int ((p1 + p2) + p3)), .val (.int (((p1 + p2) + p3) + p4))] [(.int p3)])) _
                refine XS.ifYes X0.here hx rfl (pc0 := 92) (pc' := 97) rfl (hb hby d2_92) rfl ((if0 _ _).trans (flt hc92).2.2.2) (by decide) (by decide) ?_
                show Steps p.tables e below (s₁.setTop (mkF m 97 #[.val (.int p1), .val (.int p2), .val (.int p3), .val (.int p4), .val (.int p5), .val (.int p1), .val (.int (p1 + p2)), .val (.int ((p1 + p2) + p3)), .val (.int (((p1 + p2) + p3) + p4))] [])) _
                refine XS.iloadN X0.here hx rfl (hb hby d2_97) rfl ?_
                exact kt
              by_cases hc98 : (0 : Int32) < p2
              · obtain ⟨fs, hr, hrun, hended, hW, hsame⟩ := X0.leave (v := some (.int (1 : Int32))) (fun h => by rw [Bd.returns] at h; cases h)
                refine ⟨_, _, c78 _ ?_, hrun, hended, _, _, rfl, ?_, ⟨_, rfl⟩, hW, hsame.mono (by decide) (by decide)⟩
                · show Steps p.tables e below (s₁.setTop (mkF m 98 #[.val (.int p1), .val (.int p2), .val (.int p3), .val (.int p4), .val (.int p5), .val (.int p1), .val (.int (p1 + p2)), .val (.int ((p1 + p2) + p3)), .val (.int (((p1 + p2) + p3) + p4))] [(.int p2)])) _
                  refine XS.ifNo X0.here hx rfl (hb hby d2_98) rfl ((if0 _ _).trans (tlt hc98).2.2.2) ?_
                  show Steps p.tables e below (s₁.setTop (mkF m 101 #[.val (.int p1), .val (.int p2), .val (.int p3), .val (.int p4), .val (.int p5), .val (.int p1), .val (.int (p1 + p2)), .val (.int ((p1 + p2) + p3)), .val (.int (((p1 + p2) + p3) + p4))] [])) _
                  refine XS.iconst X0.here hx rfl (hb hby d2_101) ?_
                  show Steps p.tables e below (s₁.setTop (mkF m 102 #[.val (.int p1), .val (.int p2), .val (.int p3), .val (.int p4), .val (.int p5), .val (.int p1), .val (.int (p1 + p2)), .val (.int ((p1 + p2) + p3)), .val (.int (((p1 + p2) + p3) + p4))] [(.int (1 : Int32))])) _
                  exact retI X0 hx Bd.returns (hb hby d2_102) hr
                · show Q2 Z p1 p2 p3 p4 p5 h0 n0 _ s₁.heap _
                  rw [e0]
                  have hv : (own_exp p1 p2 p3 p4 p5) = (1 : Int32) := by unfold own_exp; rw [if_neg hc22, if_neg hc38, if_neg hc54, if_neg hc70, if_neg hc86, if_neg hc92, if_pos hc98]
                  exact ⟨by rw [hv], N0, rfl⟩
              · obtain ⟨fs, hr, hrun, hended, hW, hsame⟩ := X0.leave (v := some (.int (0 : Int32))) (fun h => by rw [Bd.returns] at h; cases h)
                refine ⟨_, _, c78 _ ?_, hrun, hended, _, _, rfl, ?_, ⟨_, rfl⟩, hW, hsame.mono (by decide) (by decide)⟩
                · show Steps p.tables e below (s₁.setTop (mkF m 98 #[.val (.int p1), .val (.int p2), .val (.int p3), .val (.int p4), .val (.int p5), .val (.int p1), .val (.int (p1 + p2)), .val (.int ((p1 + p2) + p3)), .val (.int (((p1 + p2) + p3) + p4))] [(.int p2)])) _
                  refine XS.ifYes X0.here hx rfl (pc0 := 98) (pc' := 103) rfl (hb hby d2_98) rfl ((if0 _ _).trans (flt hc98).2.2.2) (by decide) (by decide) ?_
                  show Steps p.tables e below (s₁.setTop (mkF m 103 #[.val (.int p1), .val (.int p2), .val (.int p3), .val (.int p4), .val (.int p5), .val (.int p1), .val (.int (p1 + p2)), .val (.int ((p1 + p2) + p3)), .val (.int (((p1 + p2) + p3) + p4))] [])) _
                  refine XS.iconst X0.here hx rfl (hb hby d2_103) ?_
                  show Steps p.tables e below (s₁.setTop (mkF m 104 #[.val (.int p1), .val (.int p2), .val (.int p3), .val (.int p4), .val (.int p5), .val (.int p1), .val (.int (p1 + p2)), .val (.int ((p1 + p2) + p3)), .val (.int (((p1 + p2) + p3) + p4))] [(.int (0 : Int32))])) _
                  exact retI X0 hx Bd.returns (hb hby d2_104) hr
                · show Q2 Z p1 p2 p3 p4 p5 h0 n0 _ s₁.heap _
                  rw [e0]
                  have hv : (own_exp p1 p2 p3 p4 p5) = (0 : Int32) := by unfold own_exp; rw [if_neg hc22, if_neg hc38, if_neg hc54, if_neg hc70, if_neg hc86, if_neg hc92, if_neg hc98]
                  exact ⟨by rw [hv], N0, rfl⟩
theorem own_toInt (n : Nat) (h : n < 2147483648) : (Int32.ofNat n).toInt = (n : Int) := Int32.toInt_ofNat_of_lt (by omega)
theorem own_ltN (a b : Nat) (ha : a < 2147483648) (hb : b < 2147483648) : (Int32.ofNat a < Int32.ofNat b) = (a < b) := by
  have e1 := own_toInt a ha
  have e2 := own_toInt b hb
  apply propext
  rw [Int32.lt_iff_toInt_lt, e1, e2]
  omega
theorem own_addN (a b : Nat) : Int32.ofNat a + Int32.ofNat b = Int32.ofNat (a + b) := (Int32.ofNat_add a b).symm
theorem own_mulN (a b : Nat) : Int32.ofNat a * Int32.ofNat b = Int32.ofNat (a * b) := (Int32.ofNat_mul a b).symm
theorem own_subN (a b : Nat) (h : b ≤ a) : Int32.ofNat a - Int32.ofNat b = Int32.ofNat (a - b) := (Int32.ofNat_sub a b h).symm
theorem own_injN (x : Int32) (n : Nat) (h : n < 2147483648) (e : x.toInt = (n : Int)) : x = Int32.ofNat n := Int32.toInt_inj.mp (by rw [own_toInt n h]; exact e)
theorem own_rr (x y : Int32) (k : Nat) (hk : 0 < k) (hk2 : k ≤ 256) (e : y = Int32.ofNat k) : ∃ n, n < k ∧ (((x &&& (2147483647 : Int32)) - ((x &&& (2147483647 : Int32)) / y) * y)) = Int32.ofNat n := by
  have a := (c_and x 2147483647 (by decide)).1
  have ey : y.toInt = (k : Int) := by rw [e]; exact own_toInt k (by omega)
  have h := (c_irem (x &&& 2147483647) y (k : Int) ey).1 a
  have h1 := Int.emod_nonneg (x &&& 2147483647).toInt (b := (k : Int)) (by omega)
  have h2 := Int.emod_lt_of_pos (x &&& 2147483647).toInt (b := (k : Int)) (by omega)
  refine ⟨((x &&& 2147483647).toInt % (k : Int)).toNat, by omega, ?_⟩
  rw [own_rem]
  exact own_injN _ _ (by omega) (by rw [h]; omega)
theorem own_nz (y : Int32) (k : Nat) (hk : 0 < k) (hk2 : k ≤ 256) (e : y = Int32.ofNat k) : y ≠ 0 := fun z => by
  have h := own_toInt k (by omega)
  rw [← e, z] at h
  have : (0 : Int) = (k : Int) := h
  omega
theorem own_s1 (a : Nat) (h : a ≤ 16) : (17 : Int32) - Int32.ofNat a = Int32.ofNat (17 - a) := own_subN 17 a (by omega)
theorem own_s2 (a b : Nat) (h : a + b ≤ 16) : ((17 : Int32) - Int32.ofNat a) - Int32.ofNat b = Int32.ofNat (17 - a - b) := by rw [own_s1 a (by omega)]; exact own_subN _ b (by omega)
theorem own_s3 (a b d : Nat) (h : a + b + d ≤ 16) : (((16 : Int32) - Int32.ofNat a) - Int32.ofNat b) - Int32.ofNat d = Int32.ofNat (16 - a - b - d) := by
  have e : (16 : Int32) - Int32.ofNat a = Int32.ofNat (16 - a) := own_subN 16 a (by omega)
  rw [e, own_subN _ b (by omega), own_subN _ d (by omega)]
theorem own_s4 (a b d : Nat) (h : a + b + d ≤ 16) : Int32.ofNat (16 - a - b - d) + (1 : Int32) = Int32.ofNat (17 - a - b - d) := by
  have e : Int32.ofNat (16 - a - b - d) + (1 : Int32) = Int32.ofNat (16 - a - b - d + 1) := own_addN _ 1
  rw [e]
  congr 1
  omega
theorem own_r3 (x k : Int32) (r : Nat) (hr : r ≤ 16) (y j : Int32) (e1 : y = Int32.ofNat (r + 1)) (e : j = (if (k &&& (1 : Int32)) = (0 : Int32) then ((x &&& (2147483647 : Int32)) - ((x &&& (2147483647 : Int32)) / y) * y) else (Int32.ofNat r))) : ∃ n, n ≤ r ∧ j = Int32.ofNat n := by
  by_cases h : (k &&& (1 : Int32)) = (0 : Int32)
  · rw [if_pos h] at e
    obtain ⟨n, hn, q⟩ := own_rr x y (r + 1) (by omega) (by omega) e1
    exact ⟨n, by omega, e.trans q⟩
  · rw [if_neg h] at e
    exact ⟨r, Nat.le_refl _, e⟩
theorem own_sum0 (a b c d : Nat) (h : a + b + c + d ≤ 16) (g : ¬ (((Int32.ofNat a + Int32.ofNat b) + Int32.ofNat c) + Int32.ofNat d) = (0 : Int32)) : 0 < a + b + c + d := by
  rw [own_addN, own_addN, own_addN] at g
  apply Nat.pos_of_ne_zero
  intro z
  rw [z] at g
  exact g rfl
set_option maxHeartbeats 4000000 in
theorem own_fin (a b c d u : Nat) (h : a + b + c + d ≤ 16) (hp : 0 < a + b + c + d) (hu : u < 256) : own_draw a b c d u = own_exp (Int32.ofNat a) (Int32.ofNat b) (Int32.ofNat c) (Int32.ofNat d) (Int32.ofNat u) := by
  have z : (0 : Int32) = Int32.ofNat 0 := rfl
  have z16 : (16 : Int32) = Int32.ofNat 16 := rfl
  have pa : ((0 : Int32) < Int32.ofNat a) = (0 < a) := own_ltN 0 a (by omega) (by omega)
  have pb : ((0 : Int32) < Int32.ofNat b) = (0 < b) := own_ltN 0 b (by omega) (by omega)
  have pc : ((0 : Int32) < Int32.ofNat c) = (0 < c) := own_ltN 0 c (by omega) (by omega)
  have pd : ((0 : Int32) < Int32.ofNat d) = (0 < d) := own_ltN 0 d (by omega) (by omega)
  have q1 : (Int32.ofNat u < (16 : Int32) * Int32.ofNat a) = (u < 16 * a) := by rw [z16, own_mulN]; exact own_ltN _ _ (by omega) (by omega)
  have q2 : (Int32.ofNat u < (16 : Int32) * (Int32.ofNat a + Int32.ofNat b)) = (u < 16 * (a + b)) := by rw [z16, own_addN, own_mulN]; exact own_ltN _ _ (by omega) (by omega)
  have q3 : (Int32.ofNat u < (16 : Int32) * ((Int32.ofNat a + Int32.ofNat b) + Int32.ofNat c)) = (u < 16 * (a + b + c)) := by rw [z16, own_addN, own_addN, own_mulN]; exact own_ltN _ _ (by omega) (by omega)
  have q4 : (Int32.ofNat u < (16 : Int32) * (((Int32.ofNat a + Int32.ofNat b) + Int32.ofNat c) + Int32.ofNat d)) = (u < 16 * (a + b + c + d)) := by rw [z16, own_addN, own_addN, own_addN, own_mulN]; exact own_ltN _ _ (by omega) (by omega)
  unfold own_draw own_exp
  simp only [pa, pb, pc, pd, q1, q2, q3, q4]
  (repeat' split) <;> first | rfl | (exfalso; omega)
theorem pn0 : plainName "com/example/braided_tour/braidedtour/choice/LogitDrawPinLaw" = true := by first | (simp [plainName, overriddenIn]; done) | decide +kernel
theorem pd0_0 : parseMethodDescriptor "([DD)I" = some ⟨[(.array .double), .double], some .int⟩ := by decide +kernel
theorem pd0_1 : parseMethodDescriptor "(IIIII)I" = some ⟨[.int, .int, .int, .int, .int], some .int⟩ := by decide +kernel
theorem ef0 (m : MethodId) (p1 : Int32) (p2 : Int32) (p3 : Int32) (p4 : Int32) (p5 : Int32) (p6 : Int32) : entryFrame m #[(.int p1), (.int p2), (.int p3), (.int p4), (.int p5), (.int p6)] maxLocals = mkF m 0 #[.val (.int p1), .val (.int p2), .val (.int p3), .val (.int p4), .val (.int p5), .val (.int p6), .unset, .unset, .unset, .unset, .unset, .unset, .unset, .unset, .unset, .unset] [] := by first | (simp [entryFrame, mkF, argsToLocals, Value.category, maxLocals]; done) | rfl
def Q0 (Z : State) (p1 : Int32) (p2 : Int32) (p3 : Int32) (p4 : Int32) (p5 : Int32) (p6 : Int32) (h0 : Heap) (n0 : Nat) (v : Option Value) (h : Heap) (L : List Loc) : Prop := v = some (.int (1 : Int32)) ∧ Fr n0 L
set_option maxRecDepth 65536 in
set_option maxHeartbeats 40000000 in
theorem rm0 (l : Launch) (Z : State) (a0 : Array Value) (hw : ∀ d ∈ tables_1, d.before a0 Z = true) (ws : List Jvm.Cond) (p1 : Int32) (p2 : Int32) (p3 : Int32) (p4 : Int32) (p5 : Int32) (p6 : Int32) (h0 : Heap) (n0 : Nat) (Z0 : n0 ≤ h0.size) :
    MetFree l x (head1 (Jvm.Cond.code x code maxLocals ret :: ws) room_1) (fun a U => a = #[(.int p1), (.int p2), (.int p3), (.int p4), (.int p5), (.int p6)] ∧ Z.Warmed39 U.vm ∧ U.heap = h0) (fun _ _ _ _ _ => True) (fun _ U o U' => ∃ v L, o = .returned v ∧ Q0 Z p1 p2 p3 p4 p5 p6 h0 n0 v U'.heap L ∧ FrameEnd U o U' L room_1.cells room_1.slots) := by
  refine MetFree.of_bodySF (plainFor_of_name pn0) hisR ?_
  intro p e s m args below meth c s₁ Bd hml0 hP hK
  obtain ⟨rfl, hZ, hh⟩ := hP
  have hx := Bd.exec
  have hby := Bd.bytes
  have hml : c.maxLocals = 16 := hml0
  have hown : s.vm.findClass "com/example/braided_tour/braidedtour/choice/LogitDrawPinLaw" = some m.cls := findClass_of_methodNamed Bd.named
  have hnm := (name_of_methodNamed Bd.named Bd.method).1
  have X0 : Stand p l e room_1 s m #[(.int p1), (.int p2), (.int p3), (.int p4), (.int p5), (.int p6)] below meth c s₁ [] 0 0 := Stand.of_body Bd
  have e0 : s₁.heap = h0 := by rw [← hh, Bd.state]; rfl
  have N0 := Fr.nil n0
  have pre0 : ∀ t, Steps p.tables e below (s₁.setTop (mkF m 0 #[.val (.int p1), .val (.int p2), .val (.int p3), .val (.int p4), .val (.int p5), .val (.int p6), .unset, .unset, .unset, .unset, .unset, .unset, .unset, .unset, .unset, .unset] [])) t → Steps p.tables e below (s₁.setTop (entryFrame m #[(.int p1), (.int p2), (.int p3), (.int p4), (.int p5), (.int p6)] maxLocals)) t := fun t k => castTop (ef0 m p1 p2 p3 p4 p5 p6) k
  have c1 : ∀ t, Steps p.tables e below (s₁.setTop (mkF m 9 #[.val (.int p1), .val (.int p2), .val (.int p3), .val (.int p4), .val (.int p5), .val (.int p6), .val (.int ((p1 &&& (2147483647 : Int32)) - ((p1 &&& (2147483647 : Int32)) / (17 : Int32)) * (17 : Int32))), .unset, .unset, .unset, .unset, .unset, .unset, .unset, .unset, .unset] [])) t → Steps p.tables e below (s₁.setTop (entryFrame m #[(.int p1), (.int p2), (.int p3), (.int p4), (.int p5), (.int p6)] maxLocals)) t := fun t kt => by
    refine pre0 _ ?_
    show Steps p.tables e below (s₁.setTop (mkF m 0 #[.val (.int p1), .val (.int p2), .val (.int p3), .val (.int p4), .val (.int p5), .val (.int p6), .unset, .unset, .unset, .unset, .unset, .unset, .unset, .unset, .unset, .unset] [])) _
    refine XS.iloadN X0.here hx rfl (hb hby at_0) rfl ?_
    show Steps p.tables e below (s₁.setTop (mkF m 1 #[.val (.int p1), .val (.int p2), .val (.int p3), .val (.int p4), .val (.int p5), .val (.int p6), .unset, .unset, .unset, .unset, .unset, .unset, .unset, .unset, .unset, .unset] [(.int p1)])) _
    refine X0.ldcInt hx hown (mvT hZ (hw _ (List.mem_of_getElem? (i := 0) rfl))) (g := (mkF m 1 #[.val (.int p1), .val (.int p2), .val (.int p3), .val (.int p4), .val (.int p5), .val (.int p6), .unset, .unset, .unset, .unset, .unset, .unset, .unset, .unset, .unset, .unset] [(.int p1)])) rfl (hb hby at_1) _ ?_
    show Steps p.tables e below (s₁.setTop (mkF m 3 #[.val (.int p1), .val (.int p2), .val (.int p3), .val (.int p4), .val (.int p5), .val (.int p6), .unset, .unset, .unset, .unset, .unset, .unset, .unset, .unset, .unset, .unset] [(.int (2147483647 : Int32)), (.int p1)])) _
    refine XS.iand X0.here hx rfl (hb hby at_3) rfl ?_
    show Steps p.tables e below (s₁.setTop (mkF m 4 #[.val (.int p1), .val (.int p2), .val (.int p3), .val (.int p4), .val (.int p5), .val (.int p6), .unset, .unset, .unset, .unset, .unset, .unset, .unset, .unset, .unset, .unset] [(.int (p1 &&& (2147483647 : Int32)))])) _
    refine XS.bipush X0.here hx rfl (hb hby at_4) ?_
    show Steps p.tables e below (s₁.setTop (mkF m 6 #[.val (.int p1), .val (.int p2), .val (.int p3), .val (.int p4), .val (.int p5), .val (.int p6), .unset, .unset, .unset, .unset, .unset, .unset, .unset, .unset, .unset, .unset] [(.int (17 : Int32)), (.int (p1 &&& (2147483647 : Int32)))])) _
    refine XS.irem X0.here hx rfl (hb hby at_6) rfl (by decide) ?_
    show Steps p.tables e below (s₁.setTop (mkF m 7 #[.val (.int p1), .val (.int p2), .val (.int p3), .val (.int p4), .val (.int p5), .val (.int p6), .unset, .unset, .unset, .unset, .unset, .unset, .unset, .unset, .unset, .unset] [(.int ((p1 &&& (2147483647 : Int32)) - ((p1 &&& (2147483647 : Int32)) / (17 : Int32)) * (17 : Int32)))])) _
    refine XS.istore X0.here hx rfl (hb hby at_7) rfl (l' := #[.val (.int p1), .val (.int p2), .val (.int p3), .val (.int p4), .val (.int p5), .val (.int p6), .val (.int ((p1 &&& (2147483647 : Int32)) - ((p1 &&& (2147483647 : Int32)) / (17 : Int32)) * (17 : Int32))), .unset, .unset, .unset, .unset, .unset, .unset, .unset, .unset, .unset]) rfl ?_
    exact kt
  obtain ⟨m0, hm0, em0⟩ := own_rr p1 17 17 (by decide) (by decide) rfl
  rw [em0] at c1
  have c2 : ∀ t, Steps p.tables e below (s₁.setTop (mkF m 21 #[.val (.int p1), .val (.int p2), .val (.int p3), .val (.int p4), .val (.int p5), .val (.int p6), .val (.int (Int32.ofNat m0)), .val (.int ((p2 &&& (2147483647 : Int32)) - ((p2 &&& (2147483647 : Int32)) / ((17 : Int32) - (Int32.ofNat m0))) * ((17 : Int32) - (Int32.ofNat m0)))), .unset, .unset, .unset, .unset, .unset, .unset, .unset, .unset] [])) t → Steps p.tables e below (s₁.setTop (entryFrame m #[(.int p1), (.int p2), (.int p3), (.int p4), (.int p5), (.int p6)] maxLocals)) t := fun t kt => by
    refine c1 _ ?_
    show Steps p.tables e below (s₁.setTop (mkF m 9 #[.val (.int p1), .val (.int p2), .val (.int p3), .val (.int p4), .val (.int p5), .val (.int p6), .val (.int (Int32.ofNat m0)), .unset, .unset, .unset, .unset, .unset, .unset, .unset, .unset, .unset] [])) _
    refine XS.iloadN X0.here hx rfl (hb hby at_9) rfl ?_
    show Steps p.tables e below (s₁.setTop (mkF m 10 #[.val (.int p1), .val (.int p2), .val (.int p3), .val (.int p4), .val (.int p5), .val (.int p6), .val (.int (Int32.ofNat m0)), .unset, .unset, .unset, .unset, .unset, .unset, .unset, .unset, .unset] [(.int p2)])) _
    refine X0.ldcInt hx hown (mvT hZ (hw _ (List.mem_of_getElem? (i := 0) rfl))) (g := (mkF m 10 #[.val (.int p1), .val (.int p2), .val (.int p3), .val (.int p4), .val (.int p5), .val (.int p6), .val (.int (Int32.ofNat m0)), .unset, .unset, .unset, .unset, .unset, .unset, .unset, .unset, .unset] [(.int p2)])) rfl (hb hby at_10) _ ?_
    show Steps p.tables e below (s₁.setTop (mkF m 12 #[.val (.int p1), .val (.int p2), .val (.int p3), .val (.int p4), .val (.int p5), .val (.int p6), .val (.int (Int32.ofNat m0)), .unset, .unset, .unset, .unset, .unset, .unset, .unset, .unset, .unset] [(.int (2147483647 : Int32)), (.int p2)])) _
    refine XS.iand X0.here hx rfl (hb hby at_12) rfl ?_
    show Steps p.tables e below (s₁.setTop (mkF m 13 #[.val (.int p1), .val (.int p2), .val (.int p3), .val (.int p4), .val (.int p5), .val (.int p6), .val (.int (Int32.ofNat m0)), .unset, .unset, .unset, .unset, .unset, .unset, .unset, .unset, .unset] [(.int (p2 &&& (2147483647 : Int32)))])) _
    refine XS.bipush X0.here hx rfl (hb hby at_13) ?_
    show Steps p.tables e below (s₁.setTop (mkF m 15 #[.val (.int p1), .val (.int p2), .val (.int p3), .val (.int p4), .val (.int p5), .val (.int p6), .val (.int (Int32.ofNat m0)), .unset, .unset, .unset, .unset, .unset, .unset, .unset, .unset, .unset] [(.int (17 : Int32)), (.int (p2 &&& (2147483647 : Int32)))])) _
    refine XS.iload X0.here hx rfl (hb hby at_15) rfl ?_
    show Steps p.tables e below (s₁.setTop (mkF m 17 #[.val (.int p1), .val (.int p2), .val (.int p3), .val (.int p4), .val (.int p5), .val (.int p6), .val (.int (Int32.ofNat m0)), .unset, .unset, .unset, .unset, .unset, .unset, .unset, .unset, .unset] [(.int (Int32.ofNat m0)), (.int (17 : Int32)), (.int (p2 &&& (2147483647 : Int32)))])) _
    refine XS.isub X0.here hx rfl (hb hby at_17) rfl ?_
    show Steps p.tables e below (s₁.setTop (mkF m 18 #[.val (.int p1), .val (.int p2), .val (.int p3), .val (.int p4), .val (.int p5), .val (.int p6), .val (.int (Int32.ofNat m0)), .unset, .unset, .unset, .unset, .unset, .unset, .unset, .unset, .unset] [(.int ((17 : Int32) - (Int32.ofNat m0))), (.int (p2 &&& (2147483647 : Int32)))])) _
    refine XS.irem X0.here hx rfl (hb hby at_18) rfl (own_nz _ (17 - m0) (by omega) (by omega) (own_s1 m0 (by omega))) ?_
    show Steps p.tables e below (s₁.setTop (mkF m 19 #[.val (.int p1), .val (.int p2), .val (.int p3), .val (.int p4), .val (.int p5), .val (.int p6), .val (.int (Int32.ofNat m0)), .unset, .unset, .unset, .unset, .unset, .unset, .unset, .unset, .unset] [(.int ((p2 &&& (2147483647 : Int32)) - ((p2 &&& (2147483647 : Int32)) / ((17 : Int32) - (Int32.ofNat m0))) * ((17 : Int32) - (Int32.ofNat m0))))])) _
    refine XS.istore X0.here hx rfl (hb hby at_19) rfl (l' := #[.val (.int p1), .val (.int p2), .val (.int p3), .val (.int p4), .val (.int p5), .val (.int p6), .val (.int (Int32.ofNat m0)), .val (.int ((p2 &&& (2147483647 : Int32)) - ((p2 &&& (2147483647 : Int32)) / ((17 : Int32) - (Int32.ofNat m0))) * ((17 : Int32) - (Int32.ofNat m0)))), .unset, .unset, .unset, .unset, .unset, .unset, .unset, .unset]) rfl ?_
    exact kt
  obtain ⟨m1, hm1, em1⟩ := own_rr p2 _ (17 - m0) (by omega) (by omega) (own_s1 m0 (by omega))
  rw [em1] at c2
  have c3 : ∀ t, Steps p.tables e below (s₁.setTop (mkF m 36 #[.val (.int p1), .val (.int p2), .val (.int p3), .val (.int p4), .val (.int p5), .val (.int p6), .val (.int (Int32.ofNat m0)), .val (.int (Int32.ofNat m1)), .val (.int ((p3 &&& (2147483647 : Int32)) - ((p3 &&& (2147483647 : Int32)) / (((17 : Int32) - (Int32.ofNat m0)) - (Int32.ofNat m1))) * (((17 : Int32) - (Int32.ofNat m0)) - (Int32.ofNat m1)))), .unset, .unset, .unset, .unset, .unset, .unset, .unset] [])) t → Steps p.tables e below (s₁.setTop (entryFrame m #[(.int p1), (.int p2), (.int p3), (.int p4), (.int p5), (.int p6)] maxLocals)) t := fun t kt => by
    refine c2 _ ?_
    show Steps p.tables e below (s₁.setTop (mkF m 21 #[.val (.int p1), .val (.int p2), .val (.int p3), .val (.int p4), .val (.int p5), .val (.int p6), .val (.int (Int32.ofNat m0)), .val (.int (Int32.ofNat m1)), .unset, .unset, .unset, .unset, .unset, .unset, .unset, .unset] [])) _
    refine XS.iloadN X0.here hx rfl (hb hby at_21) rfl ?_
    show Steps p.tables e below (s₁.setTop (mkF m 22 #[.val (.int p1), .val (.int p2), .val (.int p3), .val (.int p4), .val (.int p5), .val (.int p6), .val (.int (Int32.ofNat m0)), .val (.int (Int32.ofNat m1)), .unset, .unset, .unset, .unset, .unset, .unset, .unset, .unset] [(.int p3)])) _
    refine X0.ldcInt hx hown (mvT hZ (hw _ (List.mem_of_getElem? (i := 0) rfl))) (g := (mkF m 22 #[.val (.int p1), .val (.int p2), .val (.int p3), .val (.int p4), .val (.int p5), .val (.int p6), .val (.int (Int32.ofNat m0)), .val (.int (Int32.ofNat m1)), .unset, .unset, .unset, .unset, .unset, .unset, .unset, .unset] [(.int p3)])) rfl (hb hby at_22) _ ?_
    show Steps p.tables e below (s₁.setTop (mkF m 24 #[.val (.int p1), .val (.int p2), .val (.int p3), .val (.int p4), .val (.int p5), .val (.int p6), .val (.int (Int32.ofNat m0)), .val (.int (Int32.ofNat m1)), .unset, .unset, .unset, .unset, .unset, .unset, .unset, .unset] [(.int (2147483647 : Int32)), (.int p3)])) _
    refine XS.iand X0.here hx rfl (hb hby at_24) rfl ?_
    show Steps p.tables e below (s₁.setTop (mkF m 25 #[.val (.int p1), .val (.int p2), .val (.int p3), .val (.int p4), .val (.int p5), .val (.int p6), .val (.int (Int32.ofNat m0)), .val (.int (Int32.ofNat m1)), .unset, .unset, .unset, .unset, .unset, .unset, .unset, .unset] [(.int (p3 &&& (2147483647 : Int32)))])) _
    refine XS.bipush X0.here hx rfl (hb hby at_25) ?_
    show Steps p.tables e below (s₁.setTop (mkF m 27 #[.val (.int p1), .val (.int p2), .val (.int p3), .val (.int p4), .val (.int p5), .val (.int p6), .val (.int (Int32.ofNat m0)), .val (.int (Int32.ofNat m1)), .unset, .unset, .unset, .unset, .unset, .unset, .unset, .unset] [(.int (17 : Int32)), (.int (p3 &&& (2147483647 : Int32)))])) _
    refine XS.iload X0.here hx rfl (hb hby at_27) rfl ?_
    show Steps p.tables e below (s₁.setTop (mkF m 29 #[.val (.int p1), .val (.int p2), .val (.int p3), .val (.int p4), .val (.int p5), .val (.int p6), .val (.int (Int32.ofNat m0)), .val (.int (Int32.ofNat m1)), .unset, .unset, .unset, .unset, .unset, .unset, .unset, .unset] [(.int (Int32.ofNat m0)), (.int (17 : Int32)), (.int (p3 &&& (2147483647 : Int32)))])) _
    refine XS.isub X0.here hx rfl (hb hby at_29) rfl ?_
    show Steps p.tables e below (s₁.setTop (mkF m 30 #[.val (.int p1), .val (.int p2), .val (.int p3), .val (.int p4), .val (.int p5), .val (.int p6), .val (.int (Int32.ofNat m0)), .val (.int (Int32.ofNat m1)), .unset, .unset, .unset, .unset, .unset, .unset, .unset, .unset] [(.int ((17 : Int32) - (Int32.ofNat m0))), (.int (p3 &&& (2147483647 : Int32)))])) _
    refine XS.iload X0.here hx rfl (hb hby at_30) rfl ?_
    show Steps p.tables e below (s₁.setTop (mkF m 32 #[.val (.int p1), .val (.int p2), .val (.int p3), .val (.int p4), .val (.int p5), .val (.int p6), .val (.int (Int32.ofNat m0)), .val (.int (Int32.ofNat m1)), .unset, .unset, .unset, .unset, .unset, .unset, .unset, .unset] [(.int (Int32.ofNat m1)), (.int ((17 : Int32) - (Int32.ofNat m0))), (.int (p3 &&& (2147483647 : Int32)))])) _
    refine XS.isub X0.here hx rfl (hb hby at_32) rfl ?_
    show Steps p.tables e below (s₁.setTop (mkF m 33 #[.val (.int p1), .val (.int p2), .val (.int p3), .val (.int p4), .val (.int p5), .val (.int p6), .val (.int (Int32.ofNat m0)), .val (.int (Int32.ofNat m1)), .unset, .unset, .unset, .unset, .unset, .unset, .unset, .unset] [(.int (((17 : Int32) - (Int32.ofNat m0)) - (Int32.ofNat m1))), (.int (p3 &&& (2147483647 : Int32)))])) _
    refine XS.irem X0.here hx rfl (hb hby at_33) rfl (own_nz _ (17 - m0 - m1) (by omega) (by omega) (own_s2 m0 m1 (by omega))) ?_
    show Steps p.tables e below (s₁.setTop (mkF m 34 #[.val (.int p1), .val (.int p2), .val (.int p3), .val (.int p4), .val (.int p5), .val (.int p6), .val (.int (Int32.ofNat m0)), .val (.int (Int32.ofNat m1)), .unset, .unset, .unset, .unset, .unset, .unset, .unset, .unset] [(.int ((p3 &&& (2147483647 : Int32)) - ((p3 &&& (2147483647 : Int32)) / (((17 : Int32) - (Int32.ofNat m0)) - (Int32.ofNat m1))) * (((17 : Int32) - (Int32.ofNat m0)) - (Int32.ofNat m1))))])) _
    refine XS.istore X0.here hx rfl (hb hby at_34) rfl (l' := #[.val (.int p1), .val (.int p2), .val (.int p3), .val (.int p4), .val (.int p5), .val (.int p6), .val (.int (Int32.ofNat m0)), .val (.int (Int32.ofNat m1)), .val (.int ((p3 &&& (2147483647 : Int32)) - ((p3 &&& (2147483647 : Int32)) / (((17 : Int32) - (Int32.ofNat m0)) - (Int32.ofNat m1))) * (((17 : Int32) - (Int32.ofNat m0)) - (Int32.ofNat m1)))), .unset, .unset, .unset, .unset, .unset, .unset, .unset]) rfl ?_
    exact kt
  obtain ⟨m2, hm2, em2⟩ := own_rr p3 _ (17 - m0 - m1) (by omega) (by omega) (own_s2 m0 m1 (by omega))
  rw [em2] at c3
  have c4 : ∀ t, Steps p.tables e below (s₁.setTop (mkF m 47 #[.val (.int p1), .val (.int p2), .val (.int p3), .val (.int p4), .val (.int p5), .val (.int p6), .val (.int (Int32.ofNat m0)), .val (.int (Int32.ofNat m1)), .val (.int (Int32.ofNat m2)), .unset, .unset, .unset, .unset, .unset, .unset, .unset] [(.int ((((16 : Int32) - (Int32.ofNat m0)) - (Int32.ofNat m1)) - (Int32.ofNat m2)))])) t → Steps p.tables e below (s₁.setTop (entryFrame m #[(.int p1), (.int p2), (.int p3), (.int p4), (.int p5), (.int p6)] maxLocals)) t := fun t kt => by
    refine c3 _ ?_
    show Steps p.tables e below (s₁.setTop (mkF m 36 #[.val (.int p1), .val (.int p2), .val (.int p3), .val (.int p4), .val (.int p5), .val (.int p6), .val (.int (Int32.ofNat m0)), .val (.int (Int32.ofNat m1)), .val (.int (Int32.ofNat m2)), .unset, .unset, .unset, .unset, .unset, .unset, .unset] [])) _
    refine XS.bipush X0.here hx rfl (hb hby at_36) ?_
    show Steps p.tables e below (s₁.setTop (mkF m 38 #[.val (.int p1), .val (.int p2), .val (.int p3), .val (.int p4), .val (.int p5), .val (.int p6), .val (.int (Int32.ofNat m0)), .val (.int (Int32.ofNat m1)), .val (.int (Int32.ofNat m2)), .unset, .unset, .unset, .unset, .unset, .unset, .unset] [(.int (16 : Int32))])) _
    refine XS.iload X0.here hx rfl (hb hby at_38) rfl ?_
    show Steps p.tables e below (s₁.setTop (mkF m 40 #[.val (.int p1), .val (.int p2), .val (.int p3), .val (.int p4), .val (.int p5), .val (.int p6), .val (.int (Int32.ofNat m0)), .val (.int (Int32.ofNat m1)), .val (.int (Int32.ofNat m2)), .unset, .unset, .unset, .unset, .unset, .unset, .unset] [(.int (Int32.ofNat m0)), (.int (16 : Int32))])) _
    refine XS.isub X0.here hx rfl (hb hby at_40) rfl ?_
    show Steps p.tables e below (s₁.setTop (mkF m 41 #[.val (.int p1), .val (.int p2), .val (.int p3), .val (.int p4), .val (.int p5), .val (.int p6), .val (.int (Int32.ofNat m0)), .val (.int (Int32.ofNat m1)), .val (.int (Int32.ofNat m2)), .unset, .unset, .unset, .unset, .unset, .unset, .unset] [(.int ((16 : Int32) - (Int32.ofNat m0)))])) _
    refine XS.iload X0.here hx rfl (hb hby at_41) rfl ?_
    show Steps p.tables e below (s₁.setTop (mkF m 43 #[.val (.int p1), .val (.int p2), .val (.int p3), .val (.int p4), .val (.int p5), .val (.int p6), .val (.int (Int32.ofNat m0)), .val (.int (Int32.ofNat m1)), .val (.int (Int32.ofNat m2)), .unset, .unset, .unset, .unset, .unset, .unset, .unset] [(.int (Int32.ofNat m1)), (.int ((16 : Int32) - (Int32.ofNat m0)))])) _
    refine XS.isub X0.here hx rfl (hb hby at_43) rfl ?_
    show Steps p.tables e below (s₁.setTop (mkF m 44 #[.val (.int p1), .val (.int p2), .val (.int p3), .val (.int p4), .val (.int p5), .val (.int p6), .val (.int (Int32.ofNat m0)), .val (.int (Int32.ofNat m1)), .val (.int (Int32.ofNat m2)), .unset, .unset, .unset, .unset, .unset, .unset, .unset] [(.int (((16 : Int32) - (Int32.ofNat m0)) - (Int32.ofNat m1)))])) _
    refine XS.iload X0.here hx rfl (hb hby at_44) rfl ?_
    show Steps p.tables e below (s₁.setTop (mkF m 46 #[.val (.int p1), .val (.int p2), .val (.int p3), .val (.int p4), .val (.int p5), .val (.int p6), .val (.int (Int32.ofNat m0)), .val (.int (Int32.ofNat m1)), .val (.int (Int32.ofNat m2)), .unset, .unset, .unset, .unset, .unset, .unset, .unset] [(.int (Int32.ofNat m2)), (.int (((16 : Int32) - (Int32.ofNat m0)) - (Int32.ofNat m1)))])) _
    refine XS.isub X0.here hx rfl (hb hby at_46) rfl ?_
    exact kt
  rw [own_s3 m0 m1 m2 (by omega)] at c4
  obtain ⟨j49_S0, ej49_S0⟩ : ∃ z : Int32, z = (if (p6 &&& (1 : Int32)) = (0 : Int32) then ((p4 &&& (2147483647 : Int32)) - ((p4 &&& (2147483647 : Int32)) / ((Int32.ofNat (16 - m0 - m1 - m2)) + (1 : Int32))) * ((Int32.ofNat (16 - m0 - m1 - m2)) + (1 : Int32))) else (Int32.ofNat (16 - m0 - m1 - m2))) := ⟨_, rfl⟩
  have sg49 : ∀ t, Steps p.tables e below (s₁.setTop (mkF m 70 #[.val (.int p1), .val (.int p2), .val (.int p3), .val (.int p4), .val (.int p5), .val (.int p6), .val (.int (Int32.ofNat m0)), .val (.int (Int32.ofNat m1)), .val (.int (Int32.ofNat m2)), .val (.int (Int32.ofNat (16 - m0 - m1 - m2))), .unset, .unset, .unset, .unset, .unset, .unset] [(.int j49_S0)])) t → Steps p.tables e below (s₁.setTop (mkF m 49 #[.val (.int p1), .val (.int p2), .val (.int p3), .val (.int p4), .val (.int p5), .val (.int p6), .val (.int (Int32.ofNat m0)), .val (.int (Int32.ofNat m1)), .val (.int (Int32.ofNat m2)), .val (.int (Int32.ofNat (16 - m0 - m1 - m2))), .unset, .unset, .unset, .unset, .unset, .unset] [])) t := fun t kt => by
    show Steps p.tables e below (s₁.setTop (mkF m 49 #[.val (.int p1), .val (.int p2), .val (.int p3), .val (.int p4), .val (.int p5), .val (.int p6), .val (.int (Int32.ofNat m0)), .val (.int (Int32.ofNat m1)), .val (.int (Int32.ofNat m2)), .val (.int (Int32.ofNat (16 - m0 - m1 - m2))), .unset, .unset, .unset, .unset, .unset, .unset] [])) _
    refine XS.iload X0.here hx rfl (hb hby at_49) rfl ?_
    show Steps p.tables e below (s₁.setTop (mkF m 51 #[.val (.int p1), .val (.int p2), .val (.int p3), .val (.int p4), .val (.int p5), .val (.int p6), .val (.int (Int32.ofNat m0)), .val (.int (Int32.ofNat m1)), .val (.int (Int32.ofNat m2)), .val (.int (Int32.ofNat (16 - m0 - m1 - m2))), .unset, .unset, .unset, .unset, .unset, .unset] [(.int p6)])) _
    refine XS.iconst X0.here hx rfl (hb hby at_51) ?_
    show Steps p.tables e below (s₁.setTop (mkF m 52 #[.val (.int p1), .val (.int p2), .val (.int p3), .val (.int p4), .val (.int p5), .val (.int p6), .val (.int (Int32.ofNat m0)), .val (.int (Int32.ofNat m1)), .val (.int (Int32.ofNat m2)), .val (.int (Int32.ofNat (16 - m0 - m1 - m2))), .unset, .unset, .unset, .unset, .unset, .unset] [(.int (1 : Int32)), (.int p6)])) _
    refine XS.iand X0.here hx rfl (hb hby at_52) rfl ?_
    by_cases hc53 : (p6 &&& (1 : Int32)) = (0 : Int32)
    · have qj49_S0 : j49_S0 = ((p4 &&& (2147483647 : Int32)) - ((p4 &&& (2147483647 : Int32)) / ((Int32.ofNat (16 - m0 - m1 - m2)) + (1 : Int32))) * ((Int32.ofNat (16 - m0 - m1 - m2)) + (1 : Int32))) := by rw [ej49_S0, if_pos hc53]
      rw [qj49_S0] at kt
      show Steps p.tables e below (s₁.setTop (mkF m 53 #[.val (.int p1), .val (.int p2), .val (.int p3), .val (.int p4), .val (.int p5), .val (.int p6), .val (.int (Int32.ofNat m0)), .val (.int (Int32.ofNat m1)), .val (.int (Int32.ofNat m2)), .val (.int (Int32.ofNat (16 - m0 - m1 - m2))), .unset, .unset, .unset, .unset, .unset, .unset] [(.int (p6 &&& (1 : Int32)))])) _
      refine XS.ifYes X0.here hx rfl (pc0 := 53) (pc' := 61) rfl (hb hby at_53) rfl ((if0 _ _).trans (teq hc53).1) (by decide) (by decide) ?_
      show Steps p.tables e below (s₁.setTop (mkF m 61 #[.val (.int p1), .val (.int p2), .val (.int p3), .val (.int p4), .val (.int p5), .val (.int p6), .val (.int (Int32.ofNat m0)), .val (.int (Int32.ofNat m1)), .val (.int (Int32.ofNat m2)), .val (.int (Int32.ofNat (16 - m0 - m1 - m2))), .unset, .unset, .unset, .unset, .unset, .unset] [])) _
      refine XS.iloadN X0.here hx rfl (hb hby at_61) rfl ?_
      show Steps p.tables e below (s₁.setTop (mkF m 62 #[.val (.int p1), .val (.int p2), .val (.int p3), .val (.int p4), .val (.int p5), .val (.int p6), .val (.int (Int32.ofNat m0)), .val (.int (Int32.ofNat m1)), .val (.int (Int32.ofNat m2)), .val (.int (Int32.ofNat (16 - m0 - m1 - m2))), .unset, .unset, .unset, .unset, .unset, .unset] [(.int p4)])) _
      refine X0.ldcInt hx hown (mvT hZ (hw _ (List.mem_of_getElem? (i := 0) rfl))) (g := (mkF m 62 #[.val (.int p1), .val (.int p2), .val (.int p3), .val (.int p4), .val (.int p5), .val (.int p6), .val (.int (Int32.ofNat m0)), .val (.int (Int32.ofNat m1)), .val (.int (Int32.ofNat m2)), .val (.int (Int32.ofNat (16 - m0 - m1 - m2))), .unset, .unset, .unset, .unset, .unset, .unset] [(.int p4)])) rfl (hb hby at_62) _ ?_
      show Steps p.tables e below (s₁.setTop (mkF m 64 #[.val (.int p1), .val (.int p2), .val (.int p3), .val (.int p4), .val (.int p5), .val (.int p6), .val (.int (Int32.ofNat m0)), .val (.int (Int32.ofNat m1)), .val (.int (Int32.ofNat m2)), .val (.int (Int32.ofNat (16 - m0 - m1 - m2))), .unset, .unset, .unset, .unset, .unset, .unset] [(.int (2147483647 : Int32)), (.int p4)])) _
      refine XS.iand X0.here hx rfl (hb hby at_64) rfl ?_
      show Steps p.tables e below (s₁.setTop (mkF m 65 #[.val (.int p1), .val (.int p2), .val (.int p3), .val (.int p4), .val (.int p5), .val (.int p6), .val (.int (Int32.ofNat m0)), .val (.int (Int32.ofNat m1)), .val (.int (Int32.ofNat m2)), .val (.int (Int32.ofNat (16 - m0 - m1 - m2))), .unset, .unset, .unset, .unset, .unset, .unset] [(.int (p4 &&& (2147483647 : Int32)))])) _
      refine XS.iload X0.here hx rfl (hb hby at_65) rfl ?_
      show Steps p.tables e below (s₁.setTop (mkF m 67 #[.val (.int p1), .val (.int p2), .val (.int p3), .val (.int p4), .val (.int p5), .val (.int p6), .val (.int (Int32.ofNat m0)), .val (.int (Int32.ofNat m1)), .val (.int (Int32.ofNat m2)), .val (.int (Int32.ofNat (16 - m0 - m1 - m2))), .unset, .unset, .unset, .unset, .unset, .unset] [(.int (Int32.ofNat (16 - m0 - m1 - m2))), (.int (p4 &&& (2147483647 : Int32)))])) _
      refine XS.iconst X0.here hx rfl (hb hby at_67) ?_
      show Steps p.tables e below (s₁.setTop (mkF m 68 #[.val (.int p1), .val (.int p2), .val (.int p3), .val (.int p4), .val (.int p5), .val (.int p6), .val (.int (Int32.ofNat m0)), .val (.int (Int32.ofNat m1)), .val (.int (Int32.ofNat m2)), .val (.int (Int32.ofNat (16 - m0 - m1 - m2))), .unset, .unset, .unset, .unset, .unset, .unset] [(.int (1 : Int32)), (.int (Int32.ofNat (16 - m0 - m1 - m2))), (.int (p4 &&& (2147483647 : Int32)))])) _
      refine XS.iadd X0.here hx rfl (hb hby at_68) rfl ?_
      show Steps p.tables e below (s₁.setTop (mkF m 69 #[.val (.int p1), .val (.int p2), .val (.int p3), .val (.int p4), .val (.int p5), .val (.int p6), .val (.int (Int32.ofNat m0)), .val (.int (Int32.ofNat m1)), .val (.int (Int32.ofNat m2)), .val (.int (Int32.ofNat (16 - m0 - m1 - m2))), .unset, .unset, .unset, .unset, .unset, .unset] [(.int ((Int32.ofNat (16 - m0 - m1 - m2)) + (1 : Int32))), (.int (p4 &&& (2147483647 : Int32)))])) _
      refine XS.irem X0.here hx rfl (hb hby at_69) rfl (own_nz _ (17 - m0 - m1 - m2) (by omega) (by omega) (own_s4 m0 m1 m2 (by omega))) ?_
      exact kt
    · have qj49_S0 : j49_S0 = (Int32.ofNat (16 - m0 - m1 - m2)) := by rw [ej49_S0, if_neg hc53]
      rw [qj49_S0] at kt
      show Steps p.tables e below (s₁.setTop (mkF m 53 #[.val (.int p1), .val (.int p2), .val (.int p3), .val (.int p4), .val (.int p5), .val (.int p6), .val (.int (Int32.ofNat m0)), .val (.int (Int32.ofNat m1)), .val (.int (Int32.ofNat m2)), .val (.int (Int32.ofNat (16 - m0 - m1 - m2))), .unset, .unset, .unset, .unset, .unset, .unset] [(.int (p6 &&& (1 : Int32)))])) _
      refine XS.ifNo X0.here hx rfl (hb hby at_53) rfl ((if0 _ _).trans (feq hc53).1) ?_
      show Steps p.tables e below (s₁.setTop (mkF m 56 #[.val (.int p1), .val (.int p2), .val (.int p3), .val (.int p4), .val (.int p5), .val (.int p6), .val (.int (Int32.ofNat m0)), .val (.int (Int32.ofNat m1)), .val (.int (Int32.ofNat m2)), .val (.int (Int32.ofNat (16 - m0 - m1 - m2))), .unset, .unset, .unset, .unset, .unset, .unset] [])) _
      refine XS.iload X0.here hx rfl (hb hby at_56) rfl ?_
      show Steps p.tables e below (s₁.setTop (mkF m 58 #[.val (.int p1), .val (.int p2), .val (.int p3), .val (.int p4), .val (.int p5), .val (.int p6), .val (.int (Int32.ofNat m0)), .val (.int (Int32.ofNat m1)), .val (.int (Int32.ofNat m2)), .val (.int (Int32.ofNat (16 - m0 - m1 - m2))), .unset, .unset, .unset, .unset, .unset, .unset] [(.int (Int32.ofNat (16 - m0 - m1 - m2)))])) _
      refine XS.goto X0.here hx rfl (pc0 := 58) (pc' := 70) rfl (hb hby at_58) (by decide) (by decide) ?_
      exact kt
  have c5 : ∀ t, Steps p.tables e below (s₁.setTop (mkF m 72 #[.val (.int p1), .val (.int p2), .val (.int p3), .val (.int p4), .val (.int p5), .val (.int p6), .val (.int (Int32.ofNat m0)), .val (.int (Int32.ofNat m1)), .val (.int (Int32.ofNat m2)), .val (.int (Int32.ofNat (16 - m0 - m1 - m2))), .val (.int j49_S0), .unset, .unset, .unset, .unset, .unset] [])) t → Steps p.tables e below (s₁.setTop (entryFrame m #[(.int p1), (.int p2), (.int p3), (.int p4), (.int p5), (.int p6)] maxLocals)) t := fun t kt => by
    refine c4 _ ?_
    show Steps p.tables e below (s₁.setTop (mkF m 47 #[.val (.int p1), .val (.int p2), .val (.int p3), .val (.int p4), .val (.int p5), .val (.int p6), .val (.int (Int32.ofNat m0)), .val (.int (Int32.ofNat m1)), .val (.int (Int32.ofNat m2)), .unset, .unset, .unset, .unset, .unset, .unset, .unset] [(.int (Int32.ofNat (16 - m0 - m1 - m2)))])) _
    refine XS.istore X0.here hx rfl (hb hby at_47) rfl (l' := #[.val (.int p1), .val (.int p2), .val (.int p3), .val (.int p4), .val (.int p5), .val (.int p6), .val (.int (Int32.ofNat m0)), .val (.int (Int32.ofNat m1)), .val (.int (Int32.ofNat m2)), .val (.int (Int32.ofNat (16 - m0 - m1 - m2))), .unset, .unset, .unset, .unset, .unset, .unset]) rfl ?_
    show Steps p.tables e below (s₁.setTop (mkF m 49 #[.val (.int p1), .val (.int p2), .val (.int p3), .val (.int p4), .val (.int p5), .val (.int p6), .val (.int (Int32.ofNat m0)), .val (.int (Int32.ofNat m1)), .val (.int (Int32.ofNat m2)), .val (.int (Int32.ofNat (16 - m0 - m1 - m2))), .unset, .unset, .unset, .unset, .unset, .unset] [])) _
    refine sg49 _ ?_
    show Steps p.tables e below (s₁.setTop (mkF m 70 #[.val (.int p1), .val (.int p2), .val (.int p3), .val (.int p4), .val (.int p5), .val (.int p6), .val (.int (Int32.ofNat m0)), .val (.int (Int32.ofNat m1)), .val (.int (Int32.ofNat m2)), .val (.int (Int32.ofNat (16 - m0 - m1 - m2))), .unset, .unset, .unset, .unset, .unset, .unset] [(.int j49_S0)])) _
    refine XS.istore X0.here hx rfl (hb hby at_70) rfl (l' := #[.val (.int p1), .val (.int p2), .val (.int p3), .val (.int p4), .val (.int p5), .val (.int p6), .val (.int (Int32.ofNat m0)), .val (.int (Int32.ofNat m1)), .val (.int (Int32.ofNat m2)), .val (.int (Int32.ofNat (16 - m0 - m1 - m2))), .val (.int j49_S0), .unset, .unset, .unset, .unset, .unset]) rfl ?_
    exact kt
  obtain ⟨m3, hm3, em3⟩ := own_r3 p4 p6 (16 - m0 - m1 - m2) (by omega) _ _ ((own_s4 m0 m1 m2 (by omega)).trans (congrArg Int32.ofNat (by omega))) ej49_S0
  rw [em3] at c5
  have c6 : ∀ t, Steps p.tables e below (s₁.setTop (mkF m 83 #[.val (.int p1), .val (.int p2), .val (.int p3), .val (.int p4), .val (.int p5), .val (.int p6), .val (.int (Int32.ofNat m0)), .val (.int (Int32.ofNat m1)), .val (.int (Int32.ofNat m2)), .val (.int (Int32.ofNat (16 - m0 - m1 - m2))), .val (.int (Int32.ofNat m3)), .val (.int ((p5 &&& (2147483647 : Int32)) - ((p5 &&& (2147483647 : Int32)) / (256 : Int32)) * (256 : Int32))), .unset, .unset, .unset, .unset] [])) t → Steps p.tables e below (s₁.setTop (entryFrame m #[(.int p1), (.int p2), (.int p3), (.int p4), (.int p5), (.int p6)] maxLocals)) t := fun t kt => by
    refine c5 _ ?_
    show Steps p.tables e below (s₁.setTop (mkF m 72 #[.val (.int p1), .val (.int p2), .val (.int p3), .val (.int p4), .val (.int p5), .val (.int p6), .val (.int (Int32.ofNat m0)), .val (.int (Int32.ofNat m1)), .val (.int (Int32.ofNat m2)), .val (.int (Int32.ofNat (16 - m0 - m1 - m2))), .val (.int (Int32.ofNat m3)), .unset, .unset, .unset, .unset, .unset] [])) _
    refine XS.iload X0.here hx rfl (hb hby at_72) rfl ?_
    show Steps p.tables e below (s₁.setTop (mkF m 74 #[.val (.int p1), .val (.int p2), .val (.int p3), .val (.int p4), .val (.int p5), .val (.int p6), .val (.int (Int32.ofNat m0)), .val (.int (Int32.ofNat m1)), .val (.int (Int32.ofNat m2)), .val (.int (Int32.ofNat (16 - m0 - m1 - m2))), .val (.int (Int32.ofNat m3)), .unset, .unset, .unset, .unset, .unset] [(.int p5)])) _
    refine X0.ldcInt hx hown (mvT hZ (hw _ (List.mem_of_getElem? (i := 0) rfl))) (g := (mkF m 74 #[.val (.int p1), .val (.int p2), .val (.int p3), .val (.int p4), .val (.int p5), .val (.int p6), .val (.int (Int32.ofNat m0)), .val (.int (Int32.ofNat m1)), .val (.int (Int32.ofNat m2)), .val (.int (Int32.ofNat (16 - m0 - m1 - m2))), .val (.int (Int32.ofNat m3)), .unset, .unset, .unset, .unset, .unset] [(.int p5)])) rfl (hb hby at_74) _ ?_
    show Steps p.tables e below (s₁.setTop (mkF m 76 #[.val (.int p1), .val (.int p2), .val (.int p3), .val (.int p4), .val (.int p5), .val (.int p6), .val (.int (Int32.ofNat m0)), .val (.int (Int32.ofNat m1)), .val (.int (Int32.ofNat m2)), .val (.int (Int32.ofNat (16 - m0 - m1 - m2))), .val (.int (Int32.ofNat m3)), .unset, .unset, .unset, .unset, .unset] [(.int (2147483647 : Int32)), (.int p5)])) _
    refine XS.iand X0.here hx rfl (hb hby at_76) rfl ?_
    show Steps p.tables e below (s₁.setTop (mkF m 77 #[.val (.int p1), .val (.int p2), .val (.int p3), .val (.int p4), .val (.int p5), .val (.int p6), .val (.int (Int32.ofNat m0)), .val (.int (Int32.ofNat m1)), .val (.int (Int32.ofNat m2)), .val (.int (Int32.ofNat (16 - m0 - m1 - m2))), .val (.int (Int32.ofNat m3)), .unset, .unset, .unset, .unset, .unset] [(.int (p5 &&& (2147483647 : Int32)))])) _
    refine XS.sipush X0.here hx rfl (hb hby at_77) ?_
    show Steps p.tables e below (s₁.setTop (mkF m 80 #[.val (.int p1), .val (.int p2), .val (.int p3), .val (.int p4), .val (.int p5), .val (.int p6), .val (.int (Int32.ofNat m0)), .val (.int (Int32.ofNat m1)), .val (.int (Int32.ofNat m2)), .val (.int (Int32.ofNat (16 - m0 - m1 - m2))), .val (.int (Int32.ofNat m3)), .unset, .unset, .unset, .unset, .unset] [(.int (256 : Int32)), (.int (p5 &&& (2147483647 : Int32)))])) _
    refine XS.irem X0.here hx rfl (hb hby at_80) rfl (by decide) ?_
    show Steps p.tables e below (s₁.setTop (mkF m 81 #[.val (.int p1), .val (.int p2), .val (.int p3), .val (.int p4), .val (.int p5), .val (.int p6), .val (.int (Int32.ofNat m0)), .val (.int (Int32.ofNat m1)), .val (.int (Int32.ofNat m2)), .val (.int (Int32.ofNat (16 - m0 - m1 - m2))), .val (.int (Int32.ofNat m3)), .unset, .unset, .unset, .unset, .unset] [(.int ((p5 &&& (2147483647 : Int32)) - ((p5 &&& (2147483647 : Int32)) / (256 : Int32)) * (256 : Int32)))])) _
    refine XS.istore X0.here hx rfl (hb hby at_81) rfl (l' := #[.val (.int p1), .val (.int p2), .val (.int p3), .val (.int p4), .val (.int p5), .val (.int p6), .val (.int (Int32.ofNat m0)), .val (.int (Int32.ofNat m1)), .val (.int (Int32.ofNat m2)), .val (.int (Int32.ofNat (16 - m0 - m1 - m2))), .val (.int (Int32.ofNat m3)), .val (.int ((p5 &&& (2147483647 : Int32)) - ((p5 &&& (2147483647 : Int32)) / (256 : Int32)) * (256 : Int32))), .unset, .unset, .unset, .unset]) rfl ?_
    exact kt
  obtain ⟨uu, hu, eu⟩ := own_rr p5 256 256 (by decide) (by decide) rfl
  rw [eu] at c6
  have c7 : ∀ t, Steps p.tables e below (s₁.setTop (mkF m 94 #[.val (.int p1), .val (.int p2), .val (.int p3), .val (.int p4), .val (.int p5), .val (.int p6), .val (.int (Int32.ofNat m0)), .val (.int (Int32.ofNat m1)), .val (.int (Int32.ofNat m2)), .val (.int (Int32.ofNat (16 - m0 - m1 - m2))), .val (.int (Int32.ofNat m3)), .val (.int (Int32.ofNat uu)), .unset, .unset, .unset, .unset] [(.int ((((Int32.ofNat m0) + (Int32.ofNat m1)) + (Int32.ofNat m2)) + (Int32.ofNat m3)))])) t → Steps p.tables e below (s₁.setTop (entryFrame m #[(.int p1), (.int p2), (.int p3), (.int p4), (.int p5), (.int p6)] maxLocals)) t := fun t kt => by
    refine c6 _ ?_
    show Steps p.tables e below (s₁.setTop (mkF m 83 #[.val (.int p1), .val (.int p2), .val (.int p3), .val (.int p4), .val (.int p5), .val (.int p6), .val (.int (Int32.ofNat m0)), .val (.int (Int32.ofNat m1)), .val (.int (Int32.ofNat m2)), .val (.int (Int32.ofNat (16 - m0 - m1 - m2))), .val (.int (Int32.ofNat m3)), .val (.int (Int32.ofNat uu)), .unset, .unset, .unset, .unset] [])) _
    refine XS.iload X0.here hx rfl (hb hby at_83) rfl ?_
    show Steps p.tables e below (s₁.setTop (mkF m 85 #[.val (.int p1), .val (.int p2), .val (.int p3), .val (.int p4), .val (.int p5), .val (.int p6), .val (.int (Int32.ofNat m0)), .val (.int (Int32.ofNat m1)), .val (.int (Int32.ofNat m2)), .val (.int (Int32.ofNat (16 - m0 - m1 - m2))), .val (.int (Int32.ofNat m3)), .val (.int (Int32.ofNat uu)), .unset, .unset, .unset, .unset] [(.int (Int32.ofNat m0))])) _
    refine XS.iload X0.here hx rfl (hb hby at_85) rfl ?_
    show Steps p.tables e below (s₁.setTop (mkF m 87 #[.val (.int p1), .val (.int p2), .val (.int p3), .val (.int p4), .val (.int p5), .val (.int p6), .val (.int (Int32.ofNat m0)), .val (.int (Int32.ofNat m1)), .val (.int (Int32.ofNat m2)), .val (.int (Int32.ofNat (16 - m0 - m1 - m2))), .val (.int (Int32.ofNat m3)), .val (.int (Int32.ofNat uu)), .unset, .unset, .unset, .unset] [(.int (Int32.ofNat m1)), (.int (Int32.ofNat m0))])) _
    refine XS.iadd X0.here hx rfl (hb hby at_87) rfl ?_
    show Steps p.tables e below (s₁.setTop (mkF m 88 #[.val (.int p1), .val (.int p2), .val (.int p3), .val (.int p4), .val (.int p5), .val (.int p6), .val (.int (Int32.ofNat m0)), .val (.int (Int32.ofNat m1)), .val (.int (Int32.ofNat m2)), .val (.int (Int32.ofNat (16 - m0 - m1 - m2))), .val (.int (Int32.ofNat m3)), .val (.int (Int32.ofNat uu)), .unset, .unset, .unset, .unset] [(.int ((Int32.ofNat m0) + (Int32.ofNat m1)))])) _
    refine XS.iload X0.here hx rfl (hb hby at_88) rfl ?_
    show Steps p.tables e below (s₁.setTop (mkF m 90 #[.val (.int p1), .val (.int p2), .val (.int p3), .val (.int p4), .val (.int p5), .val (.int p6), .val (.int (Int32.ofNat m0)), .val (.int (Int32.ofNat m1)), .val (.int (Int32.ofNat m2)), .val (.int (Int32.ofNat (16 - m0 - m1 - m2))), .val (.int (Int32.ofNat m3)), .val (.int (Int32.ofNat uu)), .unset, .unset, .unset, .unset] [(.int (Int32.ofNat m2)), (.int ((Int32.ofNat m0) + (Int32.ofNat m1)))])) _
    refine XS.iadd X0.here hx rfl (hb hby at_90) rfl ?_
    show Steps p.tables e below (s₁.setTop (mkF m 91 #[.val (.int p1), .val (.int p2), .val (.int p3), .val (.int p4), .val (.int p5), .val (.int p6), .val (.int (Int32.ofNat m0)), .val (.int (Int32.ofNat m1)), .val (.int (Int32.ofNat m2)), .val (.int (Int32.ofNat (16 - m0 - m1 - m2))), .val (.int (Int32.ofNat m3)), .val (.int (Int32.ofNat uu)), .unset, .unset, .unset, .unset] [(.int (((Int32.ofNat m0) + (Int32.ofNat m1)) + (Int32.ofNat m2)))])) _
    refine XS.iload X0.here hx rfl (hb hby at_91) rfl ?_
    show Steps p.tables e below (s₁.setTop (mkF m 93 #[.val (.int p1), .val (.int p2), .val (.int p3), .val (.int p4), .val (.int p5), .val (.int p6), .val (.int (Int32.ofNat m0)), .val (.int (Int32.ofNat m1)), .val (.int (Int32.ofNat m2)), .val (.int (Int32.ofNat (16 - m0 - m1 - m2))), .val (.int (Int32.ofNat m3)), .val (.int (Int32.ofNat uu)), .unset, .unset, .unset, .unset] [(.int (Int32.ofNat m3)), (.int (((Int32.ofNat m0) + (Int32.ofNat m1)) + (Int32.ofNat m2)))])) _
    refine XS.iadd X0.here hx rfl (hb hby at_93) rfl ?_
    exact kt
  by_cases hc94 : ((((Int32.ofNat m0) + (Int32.ofNat m1)) + (Int32.ofNat m2)) + (Int32.ofNat m3)) = (0 : Int32)
  · obtain ⟨fs, hr, hrun, hended, hW, hsame⟩ := X0.leave (v := some (.int (1 : Int32))) (fun h => by rw [Bd.returns] at h; cases h)
    refine ⟨_, _, c7 _ ?_, hrun, hended, _, _, rfl, ?_, ⟨_, rfl⟩, hW, hsame.mono (by decide) (by decide)⟩
    · show Steps p.tables e below (s₁.setTop (mkF m 94 #[.val (.int p1), .val (.int p2), .val (.int p3), .val (.int p4), .val (.int p5), .val (.int p6), .val (.int (Int32.ofNat m0)), .val (.int (Int32.ofNat m1)), .val (.int (Int32.ofNat m2)), .val (.int (Int32.ofNat (16 - m0 - m1 - m2))), .val (.int (Int32.ofNat m3)), .val (.int (Int32.ofNat uu)), .unset, .unset, .unset, .unset] [(.int ((((Int32.ofNat m0) + (Int32.ofNat m1)) + (Int32.ofNat m2)) + (Int32.ofNat m3)))])) _
      refine XS.ifNo X0.here hx rfl (hb hby at_94) rfl ((if0 _ _).trans (teq hc94).2) ?_
      show Steps p.tables e below (s₁.setTop (mkF m 97 #[.val (.int p1), .val (.int p2), .val (.int p3), .val (.int p4), .val (.int p5), .val (.int p6), .val (.int (Int32.ofNat m0)), .val (.int (Int32.ofNat m1)), .val (.int (Int32.ofNat m2)), .val (.int (Int32.ofNat (16 - m0 - m1 - m2))), .val (.int (Int32.ofNat m3)), .val (.int (Int32.ofNat uu)), .unset, .unset, .unset, .unset] [])) _
      refine XS.iconst X0.here hx rfl (hb hby at_97) ?_
      show Steps p.tables e below (s₁.setTop (mkF m 98 #[.val (.int p1), .val (.int p2), .val (.int p3), .val (.int p4), .val (.int p5), .val (.int p6), .val (.int (Int32.ofNat m0)), .val (.int (Int32.ofNat m1)), .val (.int (Int32.ofNat m2)), .val (.int (Int32.ofNat (16 - m0 - m1 - m2))), .val (.int (Int32.ofNat m3)), .val (.int (Int32.ofNat uu)), .unset, .unset, .unset, .unset] [(.int (1 : Int32))])) _
      exact retN X0 hx (t := .boolean) Bd.returns (by simp) (hb hby at_98) hr
    · show Q0 Z p1 p2 p3 p4 p5 p6 h0 n0 _ s₁.heap _
      rw [e0]
      exact ⟨rfl, N0⟩
  · obtain ⟨T8, h8, k8, X8, e8, E8, A8, st8⟩ := newP X0 hx hZ (hw _ (List.mem_of_getElem? (i := 1) rfl)) e0 (g := (mkF m 100 #[.val (.int p1), .val (.int p2), .val (.int p3), .val (.int p4), .val (.int p5), .val (.int p6), .val (.int (Int32.ofNat m0)), .val (.int (Int32.ofNat m1)), .val (.int (Int32.ofNat m2)), .val (.int (Int32.ofNat (16 - m0 - m1 - m2))), .val (.int (Int32.ofNat m3)), .val (.int (Int32.ofNat uu)), .unset, .unset, .unset, .unset] [(.int (4 : Int32))])) rfl (hb hby at_100) rfl (by decide) (cap := 4) (by decide) (by decide) (by decide) (by decide)
    obtain ⟨b8, g8⟩ : ∃ z, z = h0.size := ⟨_, rfl⟩
    rw [← g8] at A8 st8
    have g_b8 : n0 ≤ b8 := Nat.le_trans Z0 (Nat.le_of_eq g8.symm)
    have Z8 : n0 ≤ h8.size := Nat.le_trans Z0 E8.1
    have V8 : Arv Z h8 b8 k8 .double (4 : Int32) [(.double 0), (.double 0), (.double 0), (.double 0)] (.double 0) := (Arv.new A8 (by decide)).pad (pad_rep [] (.double 0) 4)
    have cp114_9 := V8
    obtain ⟨cl114_9, Ar114_9, qa114_9, Sa114_9, Na114_9, Ha114_9, Ga114_9⟩ := cp114_9
    have hin114_9 : ¬ ((0 : Int32) < 0 ∨ cl114_9.slots.size ≤ ((0 : Int32)).toNatClampNeg) := inb_of Sa114_9 ⟨by decide, by decide⟩
    obtain ⟨T10, h10, X10, e10, W10, st10⟩ := stD X8 hx hZ e8 Ar114_9 (j := (0 : Int32)) hin114_9 (g := (mkF m 114 #[.val (.int p1), .val (.int p2), .val (.int p3), .val (.int p4), .val (.int p5), .val (.int p6), .val (.int (Int32.ofNat m0)), .val (.int (Int32.ofNat m1)), .val (.int (Int32.ofNat m2)), .val (.int (Int32.ofNat (16 - m0 - m1 - m2))), .val (.int (Int32.ofNat m3)), .val (.int (Int32.ofNat uu)), .val (.ref b8), .unset, .unset, .unset] [(.double (own_D m0)), (.int (0 : Int32)), (.ref b8)])) rfl rfl (hb hby at_114)
    have V10 : Arv Z h10 b8 k8 .double (4 : Int32) [(.double (own_D m0)), (.double 0), (.double 0), (.double 0)] (.double 0) := Arv.set Ar114_9 qa114_9 Sa114_9 Na114_9 Ha114_9 Ga114_9 rfl W10 0 rfl (Nat.le_of_ble_eq_true rfl)
    have N10 := Fr.snoc X10 N0 g_b8
    have Z10 : n0 ≤ h10.size := Nat.le_trans Z8 (Keep.of_wr W10).1
    have cp125_11 := V10
    obtain ⟨cl125_11, Ar125_11, qa125_11, Sa125_11, Na125_11, Ha125_11, Ga125_11⟩ := cp125_11
    have hin125_11 : ¬ ((1 : Int32) < 0 ∨ cl125_11.slots.size ≤ ((1 : Int32)).toNatClampNeg) := inb_of Sa125_11 ⟨by decide, by decide⟩
    obtain ⟨T12, h12, X12, e12, W12, st12⟩ := stD X10 hx hZ e10 Ar125_11 (j := (1 : Int32)) hin125_11 (g := (mkF m 125 #[.val (.int p1), .val (.int p2), .val (.int p3), .val (.int p4), .val (.int p5), .val (.int p6), .val (.int (Int32.ofNat m0)), .val (.int (Int32.ofNat m1)), .val (.int (Int32.ofNat m2)), .val (.int (Int32.ofNat (16 - m0 - m1 - m2))), .val (.int (Int32.ofNat m3)), .val (.int (Int32.ofNat uu)), .val (.ref b8), .unset, .unset, .unset] [(.double (own_D m1)), (.int (1 : Int32)), (.ref b8)])) rfl rfl (hb hby at_125)
    have V12 : Arv Z h12 b8 k8 .double (4 : Int32) [(.double (own_D m0)), (.double (own_D m1)), (.double 0), (.double 0)] (.double 0) := Arv.set Ar125_11 qa125_11 Sa125_11 Na125_11 Ha125_11 Ga125_11 rfl W12 1 rfl (Nat.le_of_ble_eq_true rfl)
    have N12 := Fr.snoc X12 N10 g_b8
    have Z12 : n0 ≤ h12.size := Nat.le_trans Z10 (Keep.of_wr W12).1
    have cp136_13 := V12
    obtain ⟨cl136_13, Ar136_13, qa136_13, Sa136_13, Na136_13, Ha136_13, Ga136_13⟩ := cp136_13
    have hin136_13 : ¬ ((2 : Int32) < 0 ∨ cl136_13.slots.size ≤ ((2 : Int32)).toNatClampNeg) := inb_of Sa136_13 ⟨by decide, by decide⟩
    obtain ⟨T14, h14, X14, e14, W14, st14⟩ := stD X12 hx hZ e12 Ar136_13 (j := (2 : Int32)) hin136_13 (g := (mkF m 136 #[.val (.int p1), .val (.int p2), .val (.int p3), .val (.int p4), .val (.int p5), .val (.int p6), .val (.int (Int32.ofNat m0)), .val (.int (Int32.ofNat m1)), .val (.int (Int32.ofNat m2)), .val (.int (Int32.ofNat (16 - m0 - m1 - m2))), .val (.int (Int32.ofNat m3)), .val (.int (Int32.ofNat uu)), .val (.ref b8), .unset, .unset, .unset] [(.double (own_D m2)), (.int (2 : Int32)), (.ref b8)])) rfl rfl (hb hby at_136)
    have V14 : Arv Z h14 b8 k8 .double (4 : Int32) [(.double (own_D m0)), (.double (own_D m1)), (.double (own_D m2)), (.double 0)] (.double 0) := Arv.set Ar136_13 qa136_13 Sa136_13 Na136_13 Ha136_13 Ga136_13 rfl W14 2 rfl (Nat.le_of_ble_eq_true rfl)
    have N14 := Fr.snoc X14 N12 g_b8
    have Z14 : n0 ≤ h14.size := Nat.le_trans Z12 (Keep.of_wr W14).1
    have cp147_15 := V14
    obtain ⟨cl147_15, Ar147_15, qa147_15, Sa147_15, Na147_15, Ha147_15, Ga147_15⟩ := cp147_15
    have hin147_15 : ¬ ((3 : Int32) < 0 ∨ cl147_15.slots.size ≤ ((3 : Int32)).toNatClampNeg) := inb_of Sa147_15 ⟨by decide, by decide⟩
    obtain ⟨T16, h16, X16, e16, W16, st16⟩ := stD X14 hx hZ e14 Ar147_15 (j := (3 : Int32)) hin147_15 (g := (mkF m 147 #[.val (.int p1), .val (.int p2), .val (.int p3), .val (.int p4), .val (.int p5), .val (.int p6), .val (.int (Int32.ofNat m0)), .val (.int (Int32.ofNat m1)), .val (.int (Int32.ofNat m2)), .val (.int (Int32.ofNat (16 - m0 - m1 - m2))), .val (.int (Int32.ofNat m3)), .val (.int (Int32.ofNat uu)), .val (.ref b8), .unset, .unset, .unset] [(.double (own_D m3)), (.int (3 : Int32)), (.ref b8)])) rfl rfl (hb hby at_147)
    have V16 : Arv Z h16 b8 k8 .double (4 : Int32) [(.double (own_D m0)), (.double (own_D m1)), (.double (own_D m2)), (.double (own_D m3))] (.double 0) := Arv.set Ar147_15 qa147_15 Sa147_15 Na147_15 Ha147_15 Ga147_15 rfl W16 3 rfl (Nat.le_of_ble_eq_true rfl)
    have N16 := Fr.snoc X16 N14 g_b8
    have Z16 : n0 ≤ h16.size := Nat.le_trans Z14 (Keep.of_wr W16).1
    obtain ⟨_, _, ⟨T17, L17, k17, n17⟩, -, X17, ⟨Lc17, hQ17, l17, y17, z17⟩, st17⟩ := Jvm.LawKit.callS X16 hx (y := (⟨"com/example/braided_tour/braidedtour/choice/Logit", "draw", "([DD)I"⟩ : MethodName)) hown (mvT hZ (hw _ (List.mem_of_getElem? (i := 4) rfl))) (mvT hZ (hw _ (List.mem_of_getElem? (i := 5) rfl))) (mvT hZ (hw _ (List.mem_of_getElem? (i := 6) rfl))) (mvT hZ (hw _ (List.mem_of_getElem? (i := 7) rfl))) (by decide) (backOf (W := 0) (rm1 l Z a0 hw [] b8 k8 m0 m1 m2 m3 uu h16 n0 Z16 V16 (by omega) (own_sum0 _ _ _ _ (by omega) hc94) hu) hZ (hw _ (List.mem_of_getElem? (i := 7) rfl)) (hw _ (List.mem_of_getElem? (i := 6) rfl)) (by decide) (by decide)) (g := (mkF m 161 #[.val (.int p1), .val (.int p2), .val (.int p3), .val (.int p4), .val (.int p5), .val (.int p6), .val (.int (Int32.ofNat m0)), .val (.int (Int32.ofNat m1)), .val (.int (Int32.ofNat m2)), .val (.int (Int32.ofNat (16 - m0 - m1 - m2))), .val (.int (Int32.ofNat m3)), .val (.int (Int32.ofNat uu)), .val (.ref b8), .val (.double (own_U uu)), .second, .unset] [(.double (own_U uu)), (.ref b8)])) rfl (by rw [hml]; rfl) (argsL := [(.ref b8), (.double (own_U uu))]) (rest := []) (lenOf pd0_0 rfl) rfl (by show 2 * 0 + _ ≤ _; exact Nat.le_of_eq rfl) (hb hby at_161) (fun _ _ => ⟨rfl, e16, (by decide : 1 + 0 ≤ _), (by decide : 4 + 0 ≤ _)⟩)
    dsimp only [Pt.U, Pt.locs, Pt.cells, Pt.slots] at X17 l17 y17 z17 st17 hQ17
    subst l17 y17 z17
    obtain ⟨rfl, N17q, e17⟩ := hQ17
    have N17 := Fr.app N16 N17q
    obtain ⟨_, _, ⟨T18, L18, k18, n18⟩, -, X18, ⟨Lc18, hQ18, l18, y18, z18⟩, st18⟩ := Jvm.LawKit.callS X17 hx (y := (⟨"com/example/braided_tour/braidedtour/choice/LogitDrawPinLaw", "expected", "(IIIII)I"⟩ : MethodName)) hown (mvT hZ (hw _ (List.mem_of_getElem? (i := 8) rfl))) (mvT hZ (hw _ (List.mem_of_getElem? (i := 9) rfl))) (mvT hZ (hw _ (List.mem_of_getElem? (i := 10) rfl))) (mvT hZ (hw _ (List.mem_of_getElem? (i := 11) rfl))) (by decide) (backOf (W := 1) (rm2 l Z a0 hw [] (Int32.ofNat m0) (Int32.ofNat m1) (Int32.ofNat m2) (Int32.ofNat m3) (Int32.ofNat uu) h16 n0 Z16 ) hZ (hw _ (List.mem_of_getElem? (i := 11) rfl)) (hw _ (List.mem_of_getElem? (i := 10) rfl)) (by decide) (by decide)) (g := (mkF m 178 #[.val (.int p1), .val (.int p2), .val (.int p3), .val (.int p4), .val (.int p5), .val (.int p6), .val (.int (Int32.ofNat m0)), .val (.int (Int32.ofNat m1)), .val (.int (Int32.ofNat m2)), .val (.int (Int32.ofNat (16 - m0 - m1 - m2))), .val (.int (Int32.ofNat m3)), .val (.int (Int32.ofNat uu)), .val (.ref b8), .val (.double (own_U uu)), .second, .val (.int (own_draw m0 m1 m2 m3 uu))] [(.int (Int32.ofNat uu)), (.int (Int32.ofNat m3)), (.int (Int32.ofNat m2)), (.int (Int32.ofNat m1)), (.int (Int32.ofNat m0)), (.int (own_draw m0 m1 m2 m3 uu))])) rfl (by rw [hml]; rfl) (argsL := [(.int (Int32.ofNat m0)), (.int (Int32.ofNat m1)), (.int (Int32.ofNat m2)), (.int (Int32.ofNat m3)), (.int (Int32.ofNat uu))]) (rest := [(.int (own_draw m0 m1 m2 m3 uu))]) (lenOf pd0_1 rfl) rfl (by show 2 * 0 + _ ≤ _; exact Nat.le_of_eq rfl) (hb hby at_178) (fun _ _ => ⟨rfl, e17, (by decide : 1 + 0 ≤ _), (by decide : 4 + 0 ≤ _)⟩)
    dsimp only [Pt.U, Pt.locs, Pt.cells, Pt.slots] at X18 l18 y18 z18 st18 hQ18
    subst l18 y18 z18
    obtain ⟨rfl, N18q, e18⟩ := hQ18
    have N18 := Fr.app N17 N18q
    obtain ⟨fs, hr, hrun, hended, hW, hsame⟩ := X18.leave (v := some (.int (1 : Int32))) (fun h => by rw [Bd.returns] at h; cases h)
    refine ⟨_, _, c7 _ ?_, hrun, hended, _, _, rfl, ?_, ⟨_, rfl⟩, hW, hsame.mono (by decide) (by decide)⟩
    · show Steps p.tables e below (s₁.setTop (mkF m 94 #[.val (.int p1), .val (.int p2), .val (.int p3), .val (.int p4), .val (.int p5), .val (.int p6), .val (.int (Int32.ofNat m0)), .val (.int (Int32.ofNat m1)), .val (.int (Int32.ofNat m2)), .val (.int (Int32.ofNat (16 - m0 - m1 - m2))), .val (.int (Int32.ofNat m3)), .val (.int (Int32.ofNat uu)), .unset, .unset, .unset, .unset] [(.int ((((Int32.ofNat m0) + (Int32.ofNat m1)) + (Int32.ofNat m2)) + (Int32.ofNat m3)))])) _
      refine XS.ifYes X0.here hx rfl (pc0 := 94) (pc' := 99) rfl (hb hby at_94) rfl ((if0 _ _).trans (feq hc94).2) (by decide) (by decide) ?_
      show Steps p.tables e below (s₁.setTop (mkF m 99 #[.val (.int p1), .val (.int p2), .val (.int p3), .val (.int p4), .val (.int p5), .val (.int p6), .val (.int (Int32.ofNat m0)), .val (.int (Int32.ofNat m1)), .val (.int (Int32.ofNat m2)), .val (.int (Int32.ofNat (16 - m0 - m1 - m2))), .val (.int (Int32.ofNat m3)), .val (.int (Int32.ofNat uu)), .unset, .unset, .unset, .unset] [])) _
      refine XS.iconst X0.here hx rfl (hb hby at_99) ?_
      show Steps p.tables e below (s₁.setTop (mkF m 100 #[.val (.int p1), .val (.int p2), .val (.int p3), .val (.int p4), .val (.int p5), .val (.int p6), .val (.int (Int32.ofNat m0)), .val (.int (Int32.ofNat m1)), .val (.int (Int32.ofNat m2)), .val (.int (Int32.ofNat (16 - m0 - m1 - m2))), .val (.int (Int32.ofNat m3)), .val (.int (Int32.ofNat uu)), .unset, .unset, .unset, .unset] [(.int (4 : Int32))])) _
      refine st8 _ ?_
      show Steps p.tables e below (T8.setTop (mkF m 102 #[.val (.int p1), .val (.int p2), .val (.int p3), .val (.int p4), .val (.int p5), .val (.int p6), .val (.int (Int32.ofNat m0)), .val (.int (Int32.ofNat m1)), .val (.int (Int32.ofNat m2)), .val (.int (Int32.ofNat (16 - m0 - m1 - m2))), .val (.int (Int32.ofNat m3)), .val (.int (Int32.ofNat uu)), .unset, .unset, .unset, .unset] [(.ref b8)])) _
      refine XS.astore X8.here hx rfl (hb hby at_102) rfl rfl (l' := #[.val (.int p1), .val (.int p2), .val (.int p3), .val (.int p4), .val (.int p5), .val (.int p6), .val (.int (Int32.ofNat m0)), .val (.int (Int32.ofNat m1)), .val (.int (Int32.ofNat m2)), .val (.int (Int32.ofNat (16 - m0 - m1 - m2))), .val (.int (Int32.ofNat m3)), .val (.int (Int32.ofNat uu)), .val (.ref b8), .unset, .unset, .unset]) rfl ?_
      show Steps p.tables e below (T8.setTop (mkF m 104 #[.val (.int p1), .val (.int p2), .val (.int p3), .val (.int p4), .val (.int p5), .val (.int p6), .val (.int (Int32.ofNat m0)), .val (.int (Int32.ofNat m1)), .val (.int (Int32.ofNat m2)), .val (.int (Int32.ofNat (16 - m0 - m1 - m2))), .val (.int (Int32.ofNat m3)), .val (.int (Int32.ofNat uu)), .val (.ref b8), .unset, .unset, .unset] [])) _
      refine XS.aload X8.here hx rfl (hb hby at_104) rfl rfl ?_
      show Steps p.tables e below (T8.setTop (mkF m 106 #[.val (.int p1), .val (.int p2), .val (.int p3), .val (.int p4), .val (.int p5), .val (.int p6), .val (.int (Int32.ofNat m0)), .val (.int (Int32.ofNat m1)), .val (.int (Int32.ofNat m2)), .val (.int (Int32.ofNat (16 - m0 - m1 - m2))), .val (.int (Int32.ofNat m3)), .val (.int (Int32.ofNat uu)), .val (.ref b8), .unset, .unset, .unset] [(.ref b8)])) _
      refine XS.iconst X8.here hx rfl (hb hby at_106) ?_
      show Steps p.tables e below (T8.setTop (mkF m 107 #[.val (.int p1), .val (.int p2), .val (.int p3), .val (.int p4), .val (.int p5), .val (.int p6), .val (.int (Int32.ofNat m0)), .val (.int (Int32.ofNat m1)), .val (.int (Int32.ofNat m2)), .val (.int (Int32.ofNat (16 - m0 - m1 - m2))), .val (.int (Int32.ofNat m3)), .val (.int (Int32.ofNat uu)), .val (.ref b8), .unset, .unset, .unset] [(.int (0 : Int32)), (.ref b8)])) _
      refine XS.iload X8.here hx rfl (hb hby at_107) rfl ?_
      show Steps p.tables e below (T8.setTop (mkF m 109 #[.val (.int p1), .val (.int p2), .val (.int p3), .val (.int p4), .val (.int p5), .val (.int p6), .val (.int (Int32.ofNat m0)), .val (.int (Int32.ofNat m1)), .val (.int (Int32.ofNat m2)), .val (.int (Int32.ofNat (16 - m0 - m1 - m2))), .val (.int (Int32.ofNat m3)), .val (.int (Int32.ofNat uu)), .val (.ref b8), .unset, .unset, .unset] [(.int (Int32.ofNat m0)), (.int (0 : Int32)), (.ref b8)])) _
      refine XS.i2dS X8.here hx rfl (hb hby at_109) rfl rfl ?_
      show Steps p.tables e below (T8.setTop (mkF m 110 #[.val (.int p1), .val (.int p2), .val (.int p3), .val (.int p4), .val (.int p5), .val (.int p6), .val (.int (Int32.ofNat m0)), .val (.int (Int32.ofNat m1)), .val (.int (Int32.ofNat m2)), .val (.int (Int32.ofNat (16 - m0 - m1 - m2))), .val (.int (Int32.ofNat m3)), .val (.int (Int32.ofNat uu)), .val (.ref b8), .unset, .unset, .unset] [(.double (FP.i2d (Int32.ofNat m0))), (.int (0 : Int32)), (.ref b8)])) _
      refine X8.ldc2DoubleC hx hown (mvT hZ (hw _ (List.mem_of_getElem? (i := 2) rfl))) (g := (mkF m 110 #[.val (.int p1), .val (.int p2), .val (.int p3), .val (.int p4), .val (.int p5), .val (.int p6), .val (.int (Int32.ofNat m0)), .val (.int (Int32.ofNat m1)), .val (.int (Int32.ofNat m2)), .val (.int (Int32.ofNat (16 - m0 - m1 - m2))), .val (.int (Int32.ofNat m3)), .val (.int (Int32.ofNat uu)), .val (.ref b8), .unset, .unset, .unset] [(.double (FP.i2d (Int32.ofNat m0))), (.int (0 : Int32)), (.ref b8)])) rfl (hb hby at_110) _ ?_
      show Steps p.tables e below (T8.setTop (mkF m 113 #[.val (.int p1), .val (.int p2), .val (.int p3), .val (.int p4), .val (.int p5), .val (.int p6), .val (.int (Int32.ofNat m0)), .val (.int (Int32.ofNat m1)), .val (.int (Int32.ofNat m2)), .val (.int (Int32.ofNat (16 - m0 - m1 - m2))), .val (.int (Int32.ofNat m3)), .val (.int (Int32.ofNat uu)), .val (.ref b8), .unset, .unset, .unset] [(.double (4625196817309499392 : UInt64)), (.double (FP.i2d (Int32.ofNat m0))), (.int (0 : Int32)), (.ref b8)])) _
      refine XS.ddivS X8.here hx rfl (hb hby at_113) rfl (v := (own_D m0)) (own_nan m0 (by omega)) rfl ?_
      show Steps p.tables e below (T8.setTop (mkF m 114 #[.val (.int p1), .val (.int p2), .val (.int p3), .val (.int p4), .val (.int p5), .val (.int p6), .val (.int (Int32.ofNat m0)), .val (.int (Int32.ofNat m1)), .val (.int (Int32.ofNat m2)), .val (.int (Int32.ofNat (16 - m0 - m1 - m2))), .val (.int (Int32.ofNat m3)), .val (.int (Int32.ofNat uu)), .val (.ref b8), .unset, .unset, .unset] [(.double (own_D m0)), (.int (0 : Int32)), (.ref b8)])) _
      refine st10 _ ?_
      show Steps p.tables e below (T10.setTop (mkF m 115 #[.val (.int p1), .val (.int p2), .val (.int p3), .val (.int p4), .val (.int p5), .val (.int p6), .val (.int (Int32.ofNat m0)), .val (.int (Int32.ofNat m1)), .val (.int (Int32.ofNat m2)), .val (.int (Int32.ofNat (16 - m0 - m1 - m2))), .val (.int (Int32.ofNat m3)), .val (.int (Int32.ofNat uu)), .val (.ref b8), .unset, .unset, .unset] [])) _
      refine XS.aload X10.here hx rfl (hb hby at_115) rfl rfl ?_
      show Steps p.tables e below (T10.setTop (mkF m 117 #[.val (.int p1), .val (.int p2), .val (.int p3), .val (.int p4), .val (.int p5), .val (.int p6), .val (.int (Int32.ofNat m0)), .val (.int (Int32.ofNat m1)), .val (.int (Int32.ofNat m2)), .val (.int (Int32.ofNat (16 - m0 - m1 - m2))), .val (.int (Int32.ofNat m3)), .val (.int (Int32.ofNat uu)), .val (.ref b8), .unset, .unset, .unset] [(.ref b8)])) _
      refine XS.iconst X10.here hx rfl (hb hby at_117) ?_
      show Steps p.tables e below (T10.setTop (mkF m 118 #[.val (.int p1), .val (.int p2), .val (.int p3), .val (.int p4), .val (.int p5), .val (.int p6), .val (.int (Int32.ofNat m0)), .val (.int (Int32.ofNat m1)), .val (.int (Int32.ofNat m2)), .val (.int (Int32.ofNat (16 - m0 - m1 - m2))), .val (.int (Int32.ofNat m3)), .val (.int (Int32.ofNat uu)), .val (.ref b8), .unset, .unset, .unset] [(.int (1 : Int32)), (.ref b8)])) _
      refine XS.iload X10.here hx rfl (hb hby at_118) rfl ?_
      show Steps p.tables e below (T10.setTop (mkF m 120 #[.val (.int p1), .val (.int p2), .val (.int p3), .val (.int p4), .val (.int p5), .val (.int p6), .val (.int (Int32.ofNat m0)), .val (.int (Int32.ofNat m1)), .val (.int (Int32.ofNat m2)), .val (.int (Int32.ofNat (16 - m0 - m1 - m2))), .val (.int (Int32.ofNat m3)), .val (.int (Int32.ofNat uu)), .val (.ref b8), .unset, .unset, .unset] [(.int (Int32.ofNat m1)), (.int (1 : Int32)), (.ref b8)])) _
      refine XS.i2dS X10.here hx rfl (hb hby at_120) rfl rfl ?_
      show Steps p.tables e below (T10.setTop (mkF m 121 #[.val (.int p1), .val (.int p2), .val (.int p3), .val (.int p4), .val (.int p5), .val (.int p6), .val (.int (Int32.ofNat m0)), .val (.int (Int32.ofNat m1)), .val (.int (Int32.ofNat m2)), .val (.int (Int32.ofNat (16 - m0 - m1 - m2))), .val (.int (Int32.ofNat m3)), .val (.int (Int32.ofNat uu)), .val (.ref b8), .unset, .unset, .unset] [(.double (FP.i2d (Int32.ofNat m1))), (.int (1 : Int32)), (.ref b8)])) _
      refine X10.ldc2DoubleC hx hown (mvT hZ (hw _ (List.mem_of_getElem? (i := 2) rfl))) (g := (mkF m 121 #[.val (.int p1), .val (.int p2), .val (.int p3), .val (.int p4), .val (.int p5), .val (.int p6), .val (.int (Int32.ofNat m0)), .val (.int (Int32.ofNat m1)), .val (.int (Int32.ofNat m2)), .val (.int (Int32.ofNat (16 - m0 - m1 - m2))), .val (.int (Int32.ofNat m3)), .val (.int (Int32.ofNat uu)), .val (.ref b8), .unset, .unset, .unset] [(.double (FP.i2d (Int32.ofNat m1))), (.int (1 : Int32)), (.ref b8)])) rfl (hb hby at_121) _ ?_
      show Steps p.tables e below (T10.setTop (mkF m 124 #[.val (.int p1), .val (.int p2), .val (.int p3), .val (.int p4), .val (.int p5), .val (.int p6), .val (.int (Int32.ofNat m0)), .val (.int (Int32.ofNat m1)), .val (.int (Int32.ofNat m2)), .val (.int (Int32.ofNat (16 - m0 - m1 - m2))), .val (.int (Int32.ofNat m3)), .val (.int (Int32.ofNat uu)), .val (.ref b8), .unset, .unset, .unset] [(.double (4625196817309499392 : UInt64)), (.double (FP.i2d (Int32.ofNat m1))), (.int (1 : Int32)), (.ref b8)])) _
      refine XS.ddivS X10.here hx rfl (hb hby at_124) rfl (v := (own_D m1)) (own_nan m1 (by omega)) rfl ?_
      show Steps p.tables e below (T10.setTop (mkF m 125 #[.val (.int p1), .val (.int p2), .val (.int p3), .val (.int p4), .val (.int p5), .val (.int p6), .val (.int (Int32.ofNat m0)), .val (.int (Int32.ofNat m1)), .val (.int (Int32.ofNat m2)), .val (.int (Int32.ofNat (16 - m0 - m1 - m2))), .val (.int (Int32.ofNat m3)), .val (.int (Int32.ofNat uu)), .val (.ref b8), .unset, .unset, .unset] [(.double (own_D m1)), (.int (1 : Int32)), (.ref b8)])) _
      refine st12 _ ?_
      show Steps p.tables e below (T12.setTop (mkF m 126 #[.val (.int p1), .val (.int p2), .val (.int p3), .val (.int p4), .val (.int p5), .val (.int p6), .val (.int (Int32.ofNat m0)), .val (.int (Int32.ofNat m1)), .val (.int (Int32.ofNat m2)), .val (.int (Int32.ofNat (16 - m0 - m1 - m2))), .val (.int (Int32.ofNat m3)), .val (.int (Int32.ofNat uu)), .val (.ref b8), .unset, .unset, .unset] [])) _
      refine XS.aload X12.here hx rfl (hb hby at_126) rfl rfl ?_
      show Steps p.tables e below (T12.setTop (mkF m 128 #[.val (.int p1), .val (.int p2), .val (.int p3), .val (.int p4), .val (.int p5), .val (.int p6), .val (.int (Int32.ofNat m0)), .val (.int (Int32.ofNat m1)), .val (.int (Int32.ofNat m2)), .val (.int (Int32.ofNat (16 - m0 - m1 - m2))), .val (.int (Int32.ofNat m3)), .val (.int (Int32.ofNat uu)), .val (.ref b8), .unset, .unset, .unset] [(.ref b8)])) _
      refine XS.iconst X12.here hx rfl (hb hby at_128) ?_
      show Steps p.tables e below (T12.setTop (mkF m 129 #[.val (.int p1), .val (.int p2), .val (.int p3), .val (.int p4), .val (.int p5), .val (.int p6), .val (.int (Int32.ofNat m0)), .val (.int (Int32.ofNat m1)), .val (.int (Int32.ofNat m2)), .val (.int (Int32.ofNat (16 - m0 - m1 - m2))), .val (.int (Int32.ofNat m3)), .val (.int (Int32.ofNat uu)), .val (.ref b8), .unset, .unset, .unset] [(.int (2 : Int32)), (.ref b8)])) _
      refine XS.iload X12.here hx rfl (hb hby at_129) rfl ?_
      show Steps p.tables e below (T12.setTop (mkF m 131 #[.val (.int p1), .val (.int p2), .val (.int p3), .val (.int p4), .val (.int p5), .val (.int p6), .val (.int (Int32.ofNat m0)), .val (.int (Int32.ofNat m1)), .val (.int (Int32.ofNat m2)), .val (.int (Int32.ofNat (16 - m0 - m1 - m2))), .val (.int (Int32.ofNat m3)), .val (.int (Int32.ofNat uu)), .val (.ref b8), .unset, .unset, .unset] [(.int (Int32.ofNat m2)), (.int (2 : Int32)), (.ref b8)])) _
      refine XS.i2dS X12.here hx rfl (hb hby at_131) rfl rfl ?_
      show Steps p.tables e below (T12.setTop (mkF m 132 #[.val (.int p1), .val (.int p2), .val (.int p3), .val (.int p4), .val (.int p5), .val (.int p6), .val (.int (Int32.ofNat m0)), .val (.int (Int32.ofNat m1)), .val (.int (Int32.ofNat m2)), .val (.int (Int32.ofNat (16 - m0 - m1 - m2))), .val (.int (Int32.ofNat m3)), .val (.int (Int32.ofNat uu)), .val (.ref b8), .unset, .unset, .unset] [(.double (FP.i2d (Int32.ofNat m2))), (.int (2 : Int32)), (.ref b8)])) _
      refine X12.ldc2DoubleC hx hown (mvT hZ (hw _ (List.mem_of_getElem? (i := 2) rfl))) (g := (mkF m 132 #[.val (.int p1), .val (.int p2), .val (.int p3), .val (.int p4), .val (.int p5), .val (.int p6), .val (.int (Int32.ofNat m0)), .val (.int (Int32.ofNat m1)), .val (.int (Int32.ofNat m2)), .val (.int (Int32.ofNat (16 - m0 - m1 - m2))), .val (.int (Int32.ofNat m3)), .val (.int (Int32.ofNat uu)), .val (.ref b8), .unset, .unset, .unset] [(.double (FP.i2d (Int32.ofNat m2))), (.int (2 : Int32)), (.ref b8)])) rfl (hb hby at_132) _ ?_
      show Steps p.tables e below (T12.setTop (mkF m 135 #[.val (.int p1), .val (.int p2), .val (.int p3), .val (.int p4), .val (.int p5), .val (.int p6), .val (.int (Int32.ofNat m0)), .val (.int (Int32.ofNat m1)), .val (.int (Int32.ofNat m2)), .val (.int (Int32.ofNat (16 - m0 - m1 - m2))), .val (.int (Int32.ofNat m3)), .val (.int (Int32.ofNat uu)), .val (.ref b8), .unset, .unset, .unset] [(.double (4625196817309499392 : UInt64)), (.double (FP.i2d (Int32.ofNat m2))), (.int (2 : Int32)), (.ref b8)])) _
      refine XS.ddivS X12.here hx rfl (hb hby at_135) rfl (v := (own_D m2)) (own_nan m2 (by omega)) rfl ?_
      show Steps p.tables e below (T12.setTop (mkF m 136 #[.val (.int p1), .val (.int p2), .val (.int p3), .val (.int p4), .val (.int p5), .val (.int p6), .val (.int (Int32.ofNat m0)), .val (.int (Int32.ofNat m1)), .val (.int (Int32.ofNat m2)), .val (.int (Int32.ofNat (16 - m0 - m1 - m2))), .val (.int (Int32.ofNat m3)), .val (.int (Int32.ofNat uu)), .val (.ref b8), .unset, .unset, .unset] [(.double (own_D m2)), (.int (2 : Int32)), (.ref b8)])) _
      refine st14 _ ?_
      show Steps p.tables e below (T14.setTop (mkF m 137 #[.val (.int p1), .val (.int p2), .val (.int p3), .val (.int p4), .val (.int p5), .val (.int p6), .val (.int (Int32.ofNat m0)), .val (.int (Int32.ofNat m1)), .val (.int (Int32.ofNat m2)), .val (.int (Int32.ofNat (16 - m0 - m1 - m2))), .val (.int (Int32.ofNat m3)), .val (.int (Int32.ofNat uu)), .val (.ref b8), .unset, .unset, .unset] [])) _
      refine XS.aload X14.here hx rfl (hb hby at_137) rfl rfl ?_
      show Steps p.tables e below (T14.setTop (mkF m 139 #[.val (.int p1), .val (.int p2), .val (.int p3), .val (.int p4), .val (.int p5), .val (.int p6), .val (.int (Int32.ofNat m0)), .val (.int (Int32.ofNat m1)), .val (.int (Int32.ofNat m2)), .val (.int (Int32.ofNat (16 - m0 - m1 - m2))), .val (.int (Int32.ofNat m3)), .val (.int (Int32.ofNat uu)), .val (.ref b8), .unset, .unset, .unset] [(.ref b8)])) _
      refine XS.iconst X14.here hx rfl (hb hby at_139) ?_
      show Steps p.tables e below (T14.setTop (mkF m 140 #[.val (.int p1), .val (.int p2), .val (.int p3), .val (.int p4), .val (.int p5), .val (.int p6), .val (.int (Int32.ofNat m0)), .val (.int (Int32.ofNat m1)), .val (.int (Int32.ofNat m2)), .val (.int (Int32.ofNat (16 - m0 - m1 - m2))), .val (.int (Int32.ofNat m3)), .val (.int (Int32.ofNat uu)), .val (.ref b8), .unset, .unset, .unset] [(.int (3 : Int32)), (.ref b8)])) _
      refine XS.iload X14.here hx rfl (hb hby at_140) rfl ?_
      show Steps p.tables e below (T14.setTop (mkF m 142 #[.val (.int p1), .val (.int p2), .val (.int p3), .val (.int p4), .val (.int p5), .val (.int p6), .val (.int (Int32.ofNat m0)), .val (.int (Int32.ofNat m1)), .val (.int (Int32.ofNat m2)), .val (.int (Int32.ofNat (16 - m0 - m1 - m2))), .val (.int (Int32.ofNat m3)), .val (.int (Int32.ofNat uu)), .val (.ref b8), .unset, .unset, .unset] [(.int (Int32.ofNat m3)), (.int (3 : Int32)), (.ref b8)])) _
      refine XS.i2dS X14.here hx rfl (hb hby at_142) rfl rfl ?_
      show Steps p.tables e below (T14.setTop (mkF m 143 #[.val (.int p1), .val (.int p2), .val (.int p3), .val (.int p4), .val (.int p5), .val (.int p6), .val (.int (Int32.ofNat m0)), .val (.int (Int32.ofNat m1)), .val (.int (Int32.ofNat m2)), .val (.int (Int32.ofNat (16 - m0 - m1 - m2))), .val (.int (Int32.ofNat m3)), .val (.int (Int32.ofNat uu)), .val (.ref b8), .unset, .unset, .unset] [(.double (FP.i2d (Int32.ofNat m3))), (.int (3 : Int32)), (.ref b8)])) _
      refine X14.ldc2DoubleC hx hown (mvT hZ (hw _ (List.mem_of_getElem? (i := 2) rfl))) (g := (mkF m 143 #[.val (.int p1), .val (.int p2), .val (.int p3), .val (.int p4), .val (.int p5), .val (.int p6), .val (.int (Int32.ofNat m0)), .val (.int (Int32.ofNat m1)), .val (.int (Int32.ofNat m2)), .val (.int (Int32.ofNat (16 - m0 - m1 - m2))), .val (.int (Int32.ofNat m3)), .val (.int (Int32.ofNat uu)), .val (.ref b8), .unset, .unset, .unset] [(.double (FP.i2d (Int32.ofNat m3))), (.int (3 : Int32)), (.ref b8)])) rfl (hb hby at_143) _ ?_
      show Steps p.tables e below (T14.setTop (mkF m 146 #[.val (.int p1), .val (.int p2), .val (.int p3), .val (.int p4), .val (.int p5), .val (.int p6), .val (.int (Int32.ofNat m0)), .val (.int (Int32.ofNat m1)), .val (.int (Int32.ofNat m2)), .val (.int (Int32.ofNat (16 - m0 - m1 - m2))), .val (.int (Int32.ofNat m3)), .val (.int (Int32.ofNat uu)), .val (.ref b8), .unset, .unset, .unset] [(.double (4625196817309499392 : UInt64)), (.double (FP.i2d (Int32.ofNat m3))), (.int (3 : Int32)), (.ref b8)])) _
      refine XS.ddivS X14.here hx rfl (hb hby at_146) rfl (v := (own_D m3)) (own_nan m3 (by omega)) rfl ?_
      show Steps p.tables e below (T14.setTop (mkF m 147 #[.val (.int p1), .val (.int p2), .val (.int p3), .val (.int p4), .val (.int p5), .val (.int p6), .val (.int (Int32.ofNat m0)), .val (.int (Int32.ofNat m1)), .val (.int (Int32.ofNat m2)), .val (.int (Int32.ofNat (16 - m0 - m1 - m2))), .val (.int (Int32.ofNat m3)), .val (.int (Int32.ofNat uu)), .val (.ref b8), .unset, .unset, .unset] [(.double (own_D m3)), (.int (3 : Int32)), (.ref b8)])) _
      refine st16 _ ?_
      show Steps p.tables e below (T16.setTop (mkF m 148 #[.val (.int p1), .val (.int p2), .val (.int p3), .val (.int p4), .val (.int p5), .val (.int p6), .val (.int (Int32.ofNat m0)), .val (.int (Int32.ofNat m1)), .val (.int (Int32.ofNat m2)), .val (.int (Int32.ofNat (16 - m0 - m1 - m2))), .val (.int (Int32.ofNat m3)), .val (.int (Int32.ofNat uu)), .val (.ref b8), .unset, .unset, .unset] [])) _
      refine XS.iload X16.here hx rfl (hb hby at_148) rfl ?_
      show Steps p.tables e below (T16.setTop (mkF m 150 #[.val (.int p1), .val (.int p2), .val (.int p3), .val (.int p4), .val (.int p5), .val (.int p6), .val (.int (Int32.ofNat m0)), .val (.int (Int32.ofNat m1)), .val (.int (Int32.ofNat m2)), .val (.int (Int32.ofNat (16 - m0 - m1 - m2))), .val (.int (Int32.ofNat m3)), .val (.int (Int32.ofNat uu)), .val (.ref b8), .unset, .unset, .unset] [(.int (Int32.ofNat uu))])) _
      refine XS.i2dS X16.here hx rfl (hb hby at_150) rfl rfl ?_
      show Steps p.tables e below (T16.setTop (mkF m 151 #[.val (.int p1), .val (.int p2), .val (.int p3), .val (.int p4), .val (.int p5), .val (.int p6), .val (.int (Int32.ofNat m0)), .val (.int (Int32.ofNat m1)), .val (.int (Int32.ofNat m2)), .val (.int (Int32.ofNat (16 - m0 - m1 - m2))), .val (.int (Int32.ofNat m3)), .val (.int (Int32.ofNat uu)), .val (.ref b8), .unset, .unset, .unset] [(.double (FP.i2d (Int32.ofNat uu)))])) _
      refine X16.ldc2DoubleC hx hown (mvT hZ (hw _ (List.mem_of_getElem? (i := 3) rfl))) (g := (mkF m 151 #[.val (.int p1), .val (.int p2), .val (.int p3), .val (.int p4), .val (.int p5), .val (.int p6), .val (.int (Int32.ofNat m0)), .val (.int (Int32.ofNat m1)), .val (.int (Int32.ofNat m2)), .val (.int (Int32.ofNat (16 - m0 - m1 - m2))), .val (.int (Int32.ofNat m3)), .val (.int (Int32.ofNat uu)), .val (.ref b8), .unset, .unset, .unset] [(.double (FP.i2d (Int32.ofNat uu)))])) rfl (hb hby at_151) _ ?_
      show Steps p.tables e below (T16.setTop (mkF m 154 #[.val (.int p1), .val (.int p2), .val (.int p3), .val (.int p4), .val (.int p5), .val (.int p6), .val (.int (Int32.ofNat m0)), .val (.int (Int32.ofNat m1)), .val (.int (Int32.ofNat m2)), .val (.int (Int32.ofNat (16 - m0 - m1 - m2))), .val (.int (Int32.ofNat m3)), .val (.int (Int32.ofNat uu)), .val (.ref b8), .unset, .unset, .unset] [(.double (4643211215818981376 : UInt64)), (.double (FP.i2d (Int32.ofNat uu)))])) _
      refine XS.ddivS X16.here hx rfl (hb hby at_154) rfl (v := (own_U uu)) (own_nanU uu hu) rfl ?_
      show Steps p.tables e below (T16.setTop (mkF m 155 #[.val (.int p1), .val (.int p2), .val (.int p3), .val (.int p4), .val (.int p5), .val (.int p6), .val (.int (Int32.ofNat m0)), .val (.int (Int32.ofNat m1)), .val (.int (Int32.ofNat m2)), .val (.int (Int32.ofNat (16 - m0 - m1 - m2))), .val (.int (Int32.ofNat m3)), .val (.int (Int32.ofNat uu)), .val (.ref b8), .unset, .unset, .unset] [(.double (own_U uu))])) _
      refine XS.dstore X16.here hx rfl (hb hby at_155) rfl (l' := #[.val (.int p1), .val (.int p2), .val (.int p3), .val (.int p4), .val (.int p5), .val (.int p6), .val (.int (Int32.ofNat m0)), .val (.int (Int32.ofNat m1)), .val (.int (Int32.ofNat m2)), .val (.int (Int32.ofNat (16 - m0 - m1 - m2))), .val (.int (Int32.ofNat m3)), .val (.int (Int32.ofNat uu)), .val (.ref b8), .val (.double (own_U uu)), .second, .unset]) rfl ?_
      show Steps p.tables e below (T16.setTop (mkF m 157 #[.val (.int p1), .val (.int p2), .val (.int p3), .val (.int p4), .val (.int p5), .val (.int p6), .val (.int (Int32.ofNat m0)), .val (.int (Int32.ofNat m1)), .val (.int (Int32.ofNat m2)), .val (.int (Int32.ofNat (16 - m0 - m1 - m2))), .val (.int (Int32.ofNat m3)), .val (.int (Int32.ofNat uu)), .val (.ref b8), .val (.double (own_U uu)), .second, .unset] [])) _
      refine XS.aload X16.here hx rfl (hb hby at_157) rfl rfl ?_
      show Steps p.tables e below (T16.setTop (mkF m 159 #[.val (.int p1), .val (.int p2), .val (.int p3), .val (.int p4), .val (.int p5), .val (.int p6), .val (.int (Int32.ofNat m0)), .val (.int (Int32.ofNat m1)), .val (.int (Int32.ofNat m2)), .val (.int (Int32.ofNat (16 - m0 - m1 - m2))), .val (.int (Int32.ofNat m3)), .val (.int (Int32.ofNat uu)), .val (.ref b8), .val (.double (own_U uu)), .second, .unset] [(.ref b8)])) _
      refine XS.dload X16.here hx rfl (hb hby at_159) rfl ?_
      show Steps p.tables e below (T16.setTop (mkF m 161 #[.val (.int p1), .val (.int p2), .val (.int p3), .val (.int p4), .val (.int p5), .val (.int p6), .val (.int (Int32.ofNat m0)), .val (.int (Int32.ofNat m1)), .val (.int (Int32.ofNat m2)), .val (.int (Int32.ofNat (16 - m0 - m1 - m2))), .val (.int (Int32.ofNat m3)), .val (.int (Int32.ofNat uu)), .val (.ref b8), .val (.double (own_U uu)), .second, .unset] [(.double (own_U uu)), (.ref b8)])) _
      refine st17 _ ?_
      show Steps p.tables e below (T17.setTop (mkF m 164 #[.val (.int p1), .val (.int p2), .val (.int p3), .val (.int p4), .val (.int p5), .val (.int p6), .val (.int (Int32.ofNat m0)), .val (.int (Int32.ofNat m1)), .val (.int (Int32.ofNat m2)), .val (.int (Int32.ofNat (16 - m0 - m1 - m2))), .val (.int (Int32.ofNat m3)), .val (.int (Int32.ofNat uu)), .val (.ref b8), .val (.double (own_U uu)), .second, .unset] [(.int (own_draw m0 m1 m2 m3 uu))])) _
      refine XS.istore X17.here hx rfl (hb hby at_164) rfl (l' := #[.val (.int p1), .val (.int p2), .val (.int p3), .val (.int p4), .val (.int p5), .val (.int p6), .val (.int (Int32.ofNat m0)), .val (.int (Int32.ofNat m1)), .val (.int (Int32.ofNat m2)), .val (.int (Int32.ofNat (16 - m0 - m1 - m2))), .val (.int (Int32.ofNat m3)), .val (.int (Int32.ofNat uu)), .val (.ref b8), .val (.double (own_U uu)), .second, .val (.int (own_draw m0 m1 m2 m3 uu))]) rfl ?_
      show Steps p.tables e below (T17.setTop (mkF m 166 #[.val (.int p1), .val (.int p2), .val (.int p3), .val (.int p4), .val (.int p5), .val (.int p6), .val (.int (Int32.ofNat m0)), .val (.int (Int32.ofNat m1)), .val (.int (Int32.ofNat m2)), .val (.int (Int32.ofNat (16 - m0 - m1 - m2))), .val (.int (Int32.ofNat m3)), .val (.int (Int32.ofNat uu)), .val (.ref b8), .val (.double (own_U uu)), .second, .val (.int (own_draw m0 m1 m2 m3 uu))] [])) _
      refine XS.iload X17.here hx rfl (hb hby at_166) rfl ?_
      show Steps p.tables e below (T17.setTop (mkF m 168 #[.val (.int p1), .val (.int p2), .val (.int p3), .val (.int p4), .val (.int p5), .val (.int p6), .val (.int (Int32.ofNat m0)), .val (.int (Int32.ofNat m1)), .val (.int (Int32.ofNat m2)), .val (.int (Int32.ofNat (16 - m0 - m1 - m2))), .val (.int (Int32.ofNat m3)), .val (.int (Int32.ofNat uu)), .val (.ref b8), .val (.double (own_U uu)), .second, .val (.int (own_draw m0 m1 m2 m3 uu))] [(.int (own_draw m0 m1 m2 m3 uu))])) _
      refine XS.iload X17.here hx rfl (hb hby at_168) rfl ?_
      show Steps p.tables e below (T17.setTop (mkF m 170 #[.val (.int p1), .val (.int p2), .val (.int p3), .val (.int p4), .val (.int p5), .val (.int p6), .val (.int (Int32.ofNat m0)), .val (.int (Int32.ofNat m1)), .val (.int (Int32.ofNat m2)), .val (.int (Int32.ofNat (16 - m0 - m1 - m2))), .val (.int (Int32.ofNat m3)), .val (.int (Int32.ofNat uu)), .val (.ref b8), .val (.double (own_U uu)), .second, .val (.int (own_draw m0 m1 m2 m3 uu))] [(.int (Int32.ofNat m0)), (.int (own_draw m0 m1 m2 m3 uu))])) _
      refine XS.iload X17.here hx rfl (hb hby at_170) rfl ?_
      show Steps p.tables e below (T17.setTop (mkF m 172 #[.val (.int p1), .val (.int p2), .val (.int p3), .val (.int p4), .val (.int p5), .val (.int p6), .val (.int (Int32.ofNat m0)), .val (.int (Int32.ofNat m1)), .val (.int (Int32.ofNat m2)), .val (.int (Int32.ofNat (16 - m0 - m1 - m2))), .val (.int (Int32.ofNat m3)), .val (.int (Int32.ofNat uu)), .val (.ref b8), .val (.double (own_U uu)), .second, .val (.int (own_draw m0 m1 m2 m3 uu))] [(.int (Int32.ofNat m1)), (.int (Int32.ofNat m0)), (.int (own_draw m0 m1 m2 m3 uu))])) _
      refine XS.iload X17.here hx rfl (hb hby at_172) rfl ?_
      show Steps p.tables e below (T17.setTop (mkF m 174 #[.val (.int p1), .val (.int p2), .val (.int p3), .val (.int p4), .val (.int p5), .val (.int p6), .val (.int (Int32.ofNat m0)), .val (.int (Int32.ofNat m1)), .val (.int (Int32.ofNat m2)), .val (.int (Int32.ofNat (16 - m0 - m1 - m2))), .val (.int (Int32.ofNat m3)), .val (.int (Int32.ofNat uu)), .val (.ref b8), .val (.double (own_U uu)), .second, .val (.int (own_draw m0 m1 m2 m3 uu))] [(.int (Int32.ofNat m2)), (.int (Int32.ofNat m1)), (.int (Int32.ofNat m0)), (.int (own_draw m0 m1 m2 m3 uu))])) _
      refine XS.iload X17.here hx rfl (hb hby at_174) rfl ?_
      show Steps p.tables e below (T17.setTop (mkF m 176 #[.val (.int p1), .val (.int p2), .val (.int p3), .val (.int p4), .val (.int p5), .val (.int p6), .val (.int (Int32.ofNat m0)), .val (.int (Int32.ofNat m1)), .val (.int (Int32.ofNat m2)), .val (.int (Int32.ofNat (16 - m0 - m1 - m2))), .val (.int (Int32.ofNat m3)), .val (.int (Int32.ofNat uu)), .val (.ref b8), .val (.double (own_U uu)), .second, .val (.int (own_draw m0 m1 m2 m3 uu))] [(.int (Int32.ofNat m3)), (.int (Int32.ofNat m2)), (.int (Int32.ofNat m1)), (.int (Int32.ofNat m0)), (.int (own_draw m0 m1 m2 m3 uu))])) _
      refine XS.iload X17.here hx rfl (hb hby at_176) rfl ?_
      show Steps p.tables e below (T17.setTop (mkF m 178 #[.val (.int p1), .val (.int p2), .val (.int p3), .val (.int p4), .val (.int p5), .val (.int p6), .val (.int (Int32.ofNat m0)), .val (.int (Int32.ofNat m1)), .val (.int (Int32.ofNat m2)), .val (.int (Int32.ofNat (16 - m0 - m1 - m2))), .val (.int (Int32.ofNat m3)), .val (.int (Int32.ofNat uu)), .val (.ref b8), .val (.double (own_U uu)), .second, .val (.int (own_draw m0 m1 m2 m3 uu))] [(.int (Int32.ofNat uu)), (.int (Int32.ofNat m3)), (.int (Int32.ofNat m2)), (.int (Int32.ofNat m1)), (.int (Int32.ofNat m0)), (.int (own_draw m0 m1 m2 m3 uu))])) _
      refine st18 _ ?_
      show Steps p.tables e below (T18.setTop (mkF m 181 #[.val (.int p1), .val (.int p2), .val (.int p3), .val (.int p4), .val (.int p5), .val (.int p6), .val (.int (Int32.ofNat m0)), .val (.int (Int32.ofNat m1)), .val (.int (Int32.ofNat m2)), .val (.int (Int32.ofNat (16 - m0 - m1 - m2))), .val (.int (Int32.ofNat m3)), .val (.int (Int32.ofNat uu)), .val (.ref b8), .val (.double (own_U uu)), .second, .val (.int (own_draw m0 m1 m2 m3 uu))] [(.int (own_exp (Int32.ofNat m0) (Int32.ofNat m1) (Int32.ofNat m2) (Int32.ofNat m3) (Int32.ofNat uu))), (.int (own_draw m0 m1 m2 m3 uu))])) _
      refine XS.icmpNo X18.here hx rfl (hb hby at_181) rfl (teq (own_fin m0 m1 m2 m3 uu (by omega) (own_sum0 _ _ _ _ (by omega) hc94) hu)).2 ?_
      show Steps p.tables e below (T18.setTop (mkF m 184 #[.val (.int p1), .val (.int p2), .val (.int p3), .val (.int p4), .val (.int p5), .val (.int p6), .val (.int (Int32.ofNat m0)), .val (.int (Int32.ofNat m1)), .val (.int (Int32.ofNat m2)), .val (.int (Int32.ofNat (16 - m0 - m1 - m2))), .val (.int (Int32.ofNat m3)), .val (.int (Int32.ofNat uu)), .val (.ref b8), .val (.double (own_U uu)), .second, .val (.int (own_draw m0 m1 m2 m3 uu))] [])) _
      refine XS.iconst X18.here hx rfl (hb hby at_184) ?_
      show Steps p.tables e below (T18.setTop (mkF m 185 #[.val (.int p1), .val (.int p2), .val (.int p3), .val (.int p4), .val (.int p5), .val (.int p6), .val (.int (Int32.ofNat m0)), .val (.int (Int32.ofNat m1)), .val (.int (Int32.ofNat m2)), .val (.int (Int32.ofNat (16 - m0 - m1 - m2))), .val (.int (Int32.ofNat m3)), .val (.int (Int32.ofNat uu)), .val (.ref b8), .val (.double (own_U uu)), .second, .val (.int (own_draw m0 m1 m2 m3 uu))] [(.int (1 : Int32))])) _
      refine XS.goto X18.here hx rfl (pc0 := 185) (pc' := 189) rfl (hb hby at_185) (by decide) (by decide) ?_
      show Steps p.tables e below (T18.setTop (mkF m 189 #[.val (.int p1), .val (.int p2), .val (.int p3), .val (.int p4), .val (.int p5), .val (.int p6), .val (.int (Int32.ofNat m0)), .val (.int (Int32.ofNat m1)), .val (.int (Int32.ofNat m2)), .val (.int (Int32.ofNat (16 - m0 - m1 - m2))), .val (.int (Int32.ofNat m3)), .val (.int (Int32.ofNat uu)), .val (.ref b8), .val (.double (own_U uu)), .second, .val (.int (own_draw m0 m1 m2 m3 uu))] [(.int (1 : Int32))])) _
      exact retN X18 hx (t := .boolean) Bd.returns (by simp) (hb hby at_189) hr
    · show Q0 Z p1 p2 p3 p4 p5 p6 h0 n0 _ T18.heap _
      rw [e18]
      exact ⟨rfl, N18⟩
set_option maxRecDepth 65536 in
set_option maxHeartbeats 40000000 in
theorem comes_1 {Post : Tables → Env → Array Value → State → Outcome → State → Prop} (hpost : ∀ tb e args s v u, (limb_1_1.after args s (.returned v) u = true ∧ limb_1_2.after args s (.returned v) u = true ∧ True) → FrameEnd s (.returned v) u (Jvm.fieldLocs frame_1_writes args s ++ Jvm.arrayLocs frame_1_arrays args s ++ Jvm.staticLocs frame_1_statics s) 16 128 → Post tb e args s (.returned v) u) :
    ArmFor flags0 classFile x code maxLocals ret World_1 tables_1 room_1 Calls_1 rest_1 Pre_1 Post := by
  intro l hfl _ _ p e ha hc hk s m args below hf hA hF happ hP
  obtain ⟨hcalls, hrest, hpre⟩ := hP
  obtain ⟨-, -, -, hnamed, -, -, -, hat⟩ := (Spec.applies_iff hf).mp happ
  obtain ⟨hg, hn⟩ := and_e (Cond.before_iff.mp (show (Jvm.Cond.and given_1 narrow_1).before args s = true from hpre))
  obtain ⟨gc, g0⟩ := and_e hg
  obtain ⟨ga0, g1⟩ := and_e g0
  obtain ⟨ga1, g2⟩ := and_e g1
  obtain ⟨ga2, g3⟩ := and_e g2
  obtain ⟨ga3, g4⟩ := and_e g3
  obtain ⟨ga4, g5⟩ := and_e g4
  obtain ⟨w0, w1, w2, w3, w4, w5, rfl⟩ : ∃ w0 w1 w2 w3 w4 w5 : Value, args = #[w0, w1, w2, w3, w4, w5] := by
    have hs : args.size = 6 := by simpa [Cond.value, given_1] using gc
    obtain ⟨L⟩ := args
    match L, hs with
    | [w0, w1, w2, w3, w4, w5], _ => exact ⟨w0, w1, w2, w3, w4, w5, rfl⟩
  have hw := fun d (hd : d ∈ tables_1) => atoms_spec (ws := Jvm.Cond.code x code maxLocals ret :: tables_1) hat d (List.mem_cons_of_mem _ hd)
  have hfit : Fit s := fun {y c} hc i hi => by
    obtain ⟨ha, rfl⟩ := Array.getElem?_eq_some_iff.mp hc
    have q := List.all_eq_true.mp ((Array.all_eq_true_iff_forall_mem.mp hF) _ (Array.getElem_mem ha)) i (List.mem_range.mpr hi)
    simpa [Array.getElem?_eq_getElem hi] using q
  obtain ⟨i0, ei0⟩ := is_v ga0
  obtain rfl : w0 = (.int i0) := Option.some.inj ei0
  obtain ⟨i1, ei1⟩ := is_v ga1
  obtain rfl : w1 = (.int i1) := Option.some.inj ei1
  obtain ⟨i2, ei2⟩ := is_v ga2
  obtain rfl : w2 = (.int i2) := Option.some.inj ei2
  obtain ⟨i3, ei3⟩ := is_v ga3
  obtain rfl : w3 = (.int i3) := Option.some.inj ei3
  obtain ⟨i4, ei4⟩ := is_v ga4
  obtain rfl : w4 = (.int i4) := Option.some.inj ei4
  obtain ⟨i5, ei5⟩ := is_v g5
  obtain rfl : w5 = (.int i5) := Option.some.inj ei5
  obtain ⟨n, o, h1, h2, h3, _, L, rfl, ⟨rfl, N⟩, hq⟩ := rm0 l s _ hw tables_1 i0 i1 i2 i3 i4 i5 s.heap s.heap.size (Nat.le_refl _)  p e ha hc hk s m _ below hf ((Spec.applies_iff_loose hf).mp happ).1 ⟨rfl, State.Warmed39.refl s, rfl⟩ trivial
  refine ⟨n, _, h1, h2, h3, hpost _ _ _ _ _ _ ⟨Cond.after_iff.mpr rfl, Cond.after_iff.mpr (eq_i res_at (Term.int_eval (1)) rfl), trivial⟩ ⟨hq.1, hq.2.1, (hq.2.2.sift fun y hy => Or.inr (N y hy)).mono (by decide) (by decide)⟩⟩
theorem main_1_1 : Claimed_1_1 := comes_1 fun _ _ _ _ _ _ h hF => ⟨h.1, hF⟩
theorem main_1_2 : Claimed_1_2 := comes_1 fun _ _ _ _ _ _ h hF => ⟨h.2.1, hF⟩
end Jvm.Pilot.@@N@@
namespace Jvm.Pilot.@@N@@
open Jvm Jvm.ClassFile Sem Op Lib Jvm.Free Jvm.Stand Jvm.Pilot.@@N@@.Jvm.D
/-! MADE BY PROGRAM (witnessworld.py) out of the Statement's table words and the real class files: 11 classes; the members and pool entries that the words name. The judged class is class 1, her method 1. -/
namespace start1
open Jvm.ClassFile
def u (s : String) : CpInfo := .utf8 (stringToUtf16 s)
/-- a pool by its gaps: so many unusable entries, then the entry; so many at the end -/
def gap : Nat → List CpInfo → List CpInfo
  | 0, r => r
  | n + 1, r => .unusable :: gap n r
def poolList (es : List (Nat × CpInfo)) (last : Nat) : List CpInfo := es.foldr (fun e r => gap e.1 (e.2 :: r)) (gap last [])
def pool (es : List (Nat × CpInfo)) (last : Nat) : Array CpInfo := ⟨poolList es last⟩
def fileOf (pool : Array CpInfo) (this : Nat) (attrs : Array Attribute := #[]) (ms : Array MethodInfo := #[]) (fl : Nat := 33) (sup : Nat := 0) (ifs : Array Nat := #[]) (fds : Array FieldInfo := #[]) : ClassFile where
  minorVersion := 0
  majorVersion := 65
  constantPool := pool
  accessFlags := fl
  thisClass := this
  superClass := sup
  interfaces := ifs
  fields := fds
  methods := ms
  attributes := attrs
def plain (name : String) (sup : Option ClassId) : Class where
  name := name
  kind := .ordinary
  loader := none
  accessFlags := 33
  super := sup
  interfaces := #[]
  cf := none
  fields := #[]
  methods := #[]
  instanceTypes := #[]
  staticTypes := #[]
  resolved := #[]
  callSites := []
  init := .initialized
  statics := none
  mirror := none

def pool0 : Array CpInfo := pool [(5, u "<init>"), (0, u "()V"), (1, .class_ 10), (1, u "java/lang/Object")] 113

def k0m0 : Method := { name := "<init>", desc := "()V", sig := { parameters := [], returnType := none }, accessFlags := 1, code := none }
/-- java/lang/Object -/
def k0 : Class := { plain "java/lang/Object" none with
  accessFlags := 33
  interfaces := #[]
  cf := some (fileOf pool0 8 #[] #[{ accessFlags := 1, nameIndex := 5, descriptorIndex := 6, attributes := #[] }] 33 0 #[] #[])
  fields := #[]
  methods := #[k0m0]
  instanceTypes := #[]
  staticTypes := #[]
  resolved := Array.replicate 124 none
  statics := none }

def pool1 : Array CpInfo := pool [(2, .class_ 4), (1, u "java/lang/Object"), (0, u "<init>"), (0, u "()V"), (0, .integer 2147483647), (0, .double 4625196817309499392), (1, .double 4643211215818981376), (1, .methodref 13 14), (0, .class_ 15), (0, .nameAndType 16 17), (0, u "com/example/braided_tour/braidedtour/choice/Logit"), (0, u "draw"), (0, u "([DD)I"), (0, .methodref 19 20), (0, .class_ 21), (0, .nameAndType 22 23), (0, u "com/example/braided_tour/braidedtour/choice/LogitDrawPinLaw"), (0, u "expected"), (0, u "(IIIII)I"), (2, u "law"), (0, u "(IIIIII)Z")] 5

def k1m0 : Method := { name := "<init>", desc := "()V", sig := { parameters := [], returnType := none }, accessFlags := 2, code := none }
def k1c1 : Code := { maxStack := 6, maxLocals := 16, code := code, exceptionTable := #[], attributes := #[] }
def k1m1 : Method := { name := "law", desc := "(IIIIII)Z", sig := { parameters := [.int, .int, .int, .int, .int, .int], returnType := some .boolean }, accessFlags := 9, code := some k1c1 }
def k1c2 : Code := { maxStack := 3, maxLocals := 9, code := method_3_code, exceptionTable := #[], attributes := #[] }
def k1m2 : Method := { name := "expected", desc := "(IIIII)I", sig := { parameters := [.int, .int, .int, .int, .int], returnType := some .int }, accessFlags := 10, code := some k1c2 }
/-- com/example/braided_tour/braidedtour/choice/LogitDrawPinLaw -/
def k1 : Class := { plain "com/example/braided_tour/braidedtour/choice/LogitDrawPinLaw" (some 0) with
  accessFlags := 49
  interfaces := #[]
  cf := some (fileOf pool1 19 #[] #[{ accessFlags := 2, nameIndex := 5, descriptorIndex := 6, attributes := #[] }, { accessFlags := 9, nameIndex := 26, descriptorIndex := 27, attributes := #[] }, { accessFlags := 10, nameIndex := 22, descriptorIndex := 23, attributes := #[] }] 49 2 #[] #[])
  fields := #[]
  methods := #[k1m0, k1m1, k1m2]
  instanceTypes := #[]
  staticTypes := #[]
  resolved := Array.replicate 33 none
  statics := none }

def pool2 : Array CpInfo := pool [(2, .class_ 4), (1, u "java/lang/Object"), (0, u "<init>"), (0, u "()V"), (34, .class_ 42), (0, u "com/example/braided_tour/braidedtour/choice/Logit"), (11, u "draw"), (0, u "([DD)I")] 19

def k2m0 : Method := { name := "<init>", desc := "()V", sig := { parameters := [], returnType := none }, accessFlags := 2, code := none }
def k2c1 : Code := { maxStack := 4, maxLocals := 7, code := prog_7_method_4_code, exceptionTable := #[], attributes := #[] }
def k2m1 : Method := { name := "draw", desc := "([DD)I", sig := { parameters := [(.array .double), .double], returnType := some .int }, accessFlags := 9, code := some k2c1 }
/-- com/example/braided_tour/braidedtour/choice/Logit -/
def k2 : Class := { plain "com/example/braided_tour/braidedtour/choice/Logit" (some 0) with
  accessFlags := 33
  interfaces := #[]
  cf := some (fileOf pool2 41 #[] #[{ accessFlags := 2, nameIndex := 5, descriptorIndex := 6, attributes := #[] }, { accessFlags := 9, nameIndex := 54, descriptorIndex := 55, attributes := #[] }] 33 2 #[] #[])
  fields := #[]
  methods := #[k2m0, k2m1]
  instanceTypes := #[]
  staticTypes := #[]
  resolved := Array.replicate 75 none
  statics := none }

def pool3 : Array CpInfo := pool [(1, u "java/lang/Cloneable"), (0, .class_ 1), (0, u "java/lang/Object"), (0, .class_ 3)] 3

/-- java/lang/Cloneable -/
def k3 : Class := { plain "java/lang/Cloneable" (some 0) with
  accessFlags := 1537
  interfaces := #[]
  cf := some (fileOf pool3 2 #[] #[] 1537 4 #[] #[])
  fields := #[]
  methods := #[]
  instanceTypes := #[]
  staticTypes := #[]
  resolved := Array.replicate 8 none
  statics := none }

def pool4 : Array CpInfo := pool [(1, u "java/io/Serializable"), (0, .class_ 1), (0, u "java/lang/Object"), (0, .class_ 3)] 3

/-- java/io/Serializable -/
def k4 : Class := { plain "java/io/Serializable" (some 0) with
  accessFlags := 1537
  interfaces := #[]
  cf := some (fileOf pool4 2 #[] #[] 1537 4 #[] #[])
  fields := #[]
  methods := #[]
  instanceTypes := #[]
  staticTypes := #[]
  resolved := Array.replicate 8 none
  statics := none }

/-- the primitive byte -/
def k5 : Class := { plain "byte" none with kind := .primitive 'B', accessFlags := 0x411 }
/-- [B -/
def k6 : Class := { plain "[B" (some 0) with kind := .array 5 .byte, interfaces := #[3, 4], accessFlags := 1041 }

/-- the primitive double -/
def k7 : Class := { plain "double" none with kind := .primitive 'D', accessFlags := 0x411 }
/-- [D -/
def k8 : Class := { plain "[D" (some 0) with kind := .array 7 .double, interfaces := #[3, 4], accessFlags := 1041 }

/-- the primitive int -/
def k9 : Class := { plain "int" none with kind := .primitive 'I', accessFlags := 0x411 }
/-- [I -/
def k10 : Class := { plain "[I" (some 0) with kind := .array 9 .int, interfaces := #[3, 4], accessFlags := 1041 }

def heap : Heap := #[]
def classes : Array Class := #[k0, k1, k2, k3, k4, k5, k6, k7, k8, k9, k10]
def interned : List (Array UInt16 × Addr) := []
def slotsUsed : Nat := 0
def theMethod : MethodId := ⟨1, 1⟩
def args0 : Array Value := #[.int 3, .int 2, .int 70, .int 65, .int 4, .int 3]
def aboutOver (below : List Frame) : State where
  vm := { classes := classes, interned := interned.toArray }
  heap := heap
  slotsUsed := slotsUsed
  threads := #[{ frames := .invoking theMethod args0 :: below }]
def below0 : List Frame := [.native { method := ⟨0, 0⟩, args := #[] }]
def about1 : State := aboutOver below0
def p0 : Program := .bare "" "" ""
def e0 : Env := launch0.env 0 0 0
theorem w_frames : about1.frames = Frame.invoking theMethod args0 :: below0 := rfl
set_option maxRecDepth 65536 in
theorem w_args : argsFit about1.vm theMethod args0 = true := by decide +kernel
set_option maxRecDepth 65536 in
theorem w_heap : heapFits about1 = true := by decide +kernel
set_option maxRecDepth 65536 in
theorem w_runnable : about1.curStatus? = some .runnable := by decide +kernel
set_option maxRecDepth 65536 in
theorem w_alone : about1.alone = true := by decide +kernel
set_option maxRecDepth 65536 in
theorem w_named : about1.methodNamed? x = some theMethod := by decide +kernel
set_option maxRecDepth 65536 in
theorem w_hears : about1.hears theMethod below0 = true := by decide +kernel
set_option maxRecDepth 65536 in
theorem w_ripe : about1.ripe theMethod args0 below0 = true := by decide +kernel
theorem w_running : about1.status = .running := rfl
set_option maxRecDepth 65536 in
theorem w_room : about1.hasRoom e0.platform room_1 = true :=
  launch0.hasRoom_least _ room_1 (by decide +kernel) (by decide +kernel) (by decide +kernel) (by decide +kernel) (by decide +kernel) (by decide +kernel)
theorem allAtoms_all (ts : List Jvm.Cond) (a : Array Jvm.Value) (st : Jvm.State) : (allAtoms ts).before a st = ts.all (fun c => c.before a st) := by
  induction ts with
  | nil => rfl
  | cons c t ih =>
    show (Jvm.Cond.and c (allAtoms t)).before a st = _
    rw [Jvm.Cond.before_and, ih, List.all_cons]
def words1 : List Jvm.Cond := Jvm.Cond.code x code maxLocals ret :: tables_1
/-- a 'code' word, met by the world's own term for the bytes: nothing is compared byte by byte -/
theorem code_word {y : MethodName} {bytes : ByteArray} {mx : Nat} {rt : Option FieldType} {a : Array Value} {s : State} {m : MethodId} {meth : Method} {c : Code} (h1 : s.methodNamed? y = some m) (h2 : s.vm.method? m = some meth) (h3 : meth.code = some c) (h4 : c.code = bytes)
    (h5 : (c.maxLocals == mx && c.exceptionTable.isEmpty && decide (c.maxStack ≤ mostOperands) && decide (meth.sig.returnType = rt) && !meth.locks && decide (parseMethodDescriptor y.desc = some meth.sig)) = true) : (Jvm.Cond.code y bytes mx rt).before a s = true := by
  simp only [Bool.and_eq_true, beq_iff_eq, Bool.not_eq_true', decide_eq_true_eq] at h5
  obtain ⟨⟨⟨⟨⟨g1, g2⟩, g3⟩, g4⟩, g5⟩, g6⟩ := h5
  simp [Cond.before, Cond.holds, Cond.value, h1, h2, h3, h4, g1, g2, g3, g4, g5, g6]
def isCode : Jvm.Cond → Bool
  | .code _ _ _ _ => true
  | _ => false
theorem all_split {L : List Jvm.Cond} {P : Jvm.Cond → Bool} (h1 : L.all (fun c => isCode c || P c) = true) (h2 : ∀ c ∈ L.filter isCode, P c = true) : L.all P = true := by
  refine List.all_eq_true.mpr fun c hc => ?_
  have h := List.all_eq_true.mp h1 c hc
  rcases Bool.eq_false_or_eq_true (isCode c) with hi | hi
  · exact h2 c (List.mem_filter.mpr ⟨hc, hi⟩)
  · simpa [hi] using h
set_option maxRecDepth 65536 in
theorem w_c0 : (Jvm.Cond.code x code maxLocals ret).before args0 about1 = true := code_word (m := ⟨1, 1⟩) (meth := k1m1) (c := k1c1) (by decide +kernel) rfl rfl rfl (by decide +kernel)
set_option maxRecDepth 65536 in
theorem w_c1 : (Jvm.Cond.code ({ cls := "com/example/braided_tour/braidedtour/choice/Logit", name := "draw", desc := "([DD)I" } : Jvm.MethodName) prog_7_method_4_code (7 : Nat) (Option.some Jvm.ClassFile.FieldType.int)).before args0 about1 = true := code_word (m := ⟨2, 1⟩) (meth := k2m1) (c := k2c1) (by decide +kernel) rfl rfl rfl (by decide +kernel)
set_option maxRecDepth 65536 in
theorem w_c2 : (Jvm.Cond.code ({ cls := "com/example/braided_tour/braidedtour/choice/LogitDrawPinLaw", name := "expected", desc := "(IIIII)I" } : Jvm.MethodName) method_3_code (9 : Nat) (Option.some Jvm.ClassFile.FieldType.int)).before args0 about1 = true := code_word (m := ⟨1, 2⟩) (meth := k1m2) (c := k1c2) (by decide +kernel) rfl rfl rfl (by decide +kernel)
def codes1 : List Jvm.Cond := [Jvm.Cond.code x code maxLocals ret, Jvm.Cond.code ({ cls := "com/example/braided_tour/braidedtour/choice/Logit", name := "draw", desc := "([DD)I" } : Jvm.MethodName) prog_7_method_4_code (7 : Nat) (Option.some Jvm.ClassFile.FieldType.int), Jvm.Cond.code ({ cls := "com/example/braided_tour/braidedtour/choice/LogitDrawPinLaw", name := "expected", desc := "(IIIII)I" } : Jvm.MethodName) method_3_code (9 : Nat) (Option.some Jvm.ClassFile.FieldType.int)]
set_option maxRecDepth 65536 in
theorem codes_eq : words1.filter isCode = codes1 := rfl
theorem w_codes : ∀ c ∈ words1.filter isCode, c.before args0 about1 = true := by
  rw [codes_eq]
  intro c hc
  simp only [codes1, List.mem_cons, List.not_mem_nil, or_false] at hc
  rcases hc with rfl | rfl | rfl
  · exact w_c0
  · exact w_c1
  · exact w_c2
set_option maxRecDepth 65536 in
theorem w_t1 : words1.all (fun c => isCode c || c.before args0 about1) = true := by decide +kernel
theorem w_tables : (allAtoms (Jvm.Cond.code x code maxLocals ret :: tables_1)).before args0 about1 = true := by
  rw [allAtoms_all]
  show words1.all (fun c => c.before args0 about1) = true
  refine all_split ?_ w_codes
  rw [w_t1]
set_option maxRecDepth 65536 in
theorem w_case : (Jvm.Cond.and given_1 narrow_1).before args0 about1 = true := by decide +kernel
theorem w_applies : (headSpec (Jvm.Cond.code x code maxLocals ret :: tables_1) room_1).applies x e0.platform about1 = true :=
  (Spec.applies_iff w_frames).mpr ⟨w_running, w_runnable, w_alone, w_named, w_hears, w_ripe, w_room, w_tables⟩
theorem atStart : AtStart classFile x code maxLocals ret World_1 tables_1 room_1 Calls_1 rest_1 Pre_1 launch0 p0 e0 about1 theMethod args0 below0 :=
  ⟨lists_1, trivial, launch0.admits_env _ _ _, launch0.least_env, fairChoices_fair.cas, fairChoices_fair.clock, w_frames, w_args, w_heap, w_applies, trivial, trivial, w_case⟩
end start1
theorem witness_1 : WitnessClaimed_1 := ⟨start1.p0, start1.e0, start1.about1, start1.theMethod, start1.args0, start1.below0, start1.atStart⟩
end Jvm.Pilot.@@N@@
