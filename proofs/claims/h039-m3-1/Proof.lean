import JvmDerived
import JvmDerived.Pilot.@@N@@Statement
import JvmDerived.Pilot.@@N@@Code
set_option linter.unusedVariables false
set_option linter.unusedSimpArgs false
namespace Jvm.RoadKit
open Sem ClassFile Op Lib Jvm.Stand Jvm.Free Jvm.LawKit
section New
variable {p : Program} {l : Launch} {e : Env} {R : Room} {s : State} {m : MethodId} {args : Array Value} {below : List Frame} {meth : Method} {c : Code} {T : State} {locs : List Loc} {cells slots : Nat}
theorem retI (X : Stand p l e R s m args below meth c T locs cells slots) (hx : p.tables.exec = Jvm.exec) {pc : Nat} {Ls : Array Slot} {z : Int32} {rest : List Value} (hret : meth.sig.returnType = some .int) (hd : decode c.code pc = .ok (.ireturn, 1)) {fs : List Frame}
    (hl : ∀ (f : JFrame) (acts : List Action), f.method = m → f.locked = none → f.entered = [] → (doReturn e (T.setTop f) acts (some (.int z))).1 = T.setFrames fs) : Steps p.tables e below (T.setTop (mkF m pc Ls (.int z :: rest))) (T.setFrames fs) := by
  have hm' : T.vm.method? m = some meth := X.method'
  have hn : narrow .int (.int z) = .int z := rfl
  show Steps p.tables e below (T.setTop { method := m, pc := pc, locals := Ls, stack := _ :: rest, locked := none }) _
  jvm_step X.here [X.here.top, hx, hd, hm', hret, hn]
  first | (intro acts; rw [hl _ acts rfl rfl rfl]) | rw [hl _ _ rfl rfl rfl]
  exact Steps.refl _
end New
end Jvm.RoadKit
namespace Jvm.Pilot.@@N@@
open Jvm Jvm.ClassFile Sem Op Lib Jvm.Free Jvm.Stand Jvm.LawKit Jvm.RoadKit Bundle Jvm.Pilot.@@N@@.Jvm.D
theorem own_lt (a b : Int32) : a < b ↔ a.toInt < b.toInt := Int32.lt_iff_toInt_lt
theorem own_eq (a b : Int32) : a = b ↔ a.toInt = b.toInt := Int32.toInt_inj.symm
theorem own_getI (l : List Int32) (k : Nat) : (l.map Value.int).getD k (.int 0) = .int (l.getD k 0) := by
  induction l generalizing k with
  | nil => rfl
  | cons a t ih => cases k with
    | zero => rfl
    | succ k => exact ih k
theorem own_nv {z : Int32} (h : z = 0 ∨ z = 1) : narrow .boolean (.int z) = .int z := by rcases h with rfl | rfl <;> rfl
theorem own_fitb {z : Int32} (h : z = 0 ∨ z = 1) : fits .boolean (.int z) = true := by rcases h with rfl | rfl <;> rfl
theorem own_nar {z : Int32} (h : z = 0 ∨ z = 1) : nar .boolean z = z := by rcases h with rfl | rfl <;> rfl
theorem own_ne3 {x b d : Int32} (h : ¬ b = d) : ¬ (x + b = x + d) := fun q => h (by
  have r : -x + (x + b) = -x + (x + d) := by rw [q]
  rwa [← Int32.add_assoc, ← Int32.add_assoc, Int32.add_left_neg, Int32.zero_add, Int32.zero_add] at r)
theorem own_ne4 {a c b : Int32} (h : ¬ a = c) : ¬ (((31 : Int32) * a) + b = ((31 : Int32) * c) + b) := fun q => h (by
  have r : (31 : Int32) * a = (31 : Int32) * c := by
    have u : ((31 : Int32) * a) + b + -b = ((31 : Int32) * c) + b + -b := by rw [q]
    rwa [Int32.add_assoc, Int32.add_assoc, Int32.add_right_neg, Int32.add_zero, Int32.add_zero] at u
  have i : (-1108378657 : Int32) * 31 = 1 := by decide
  have v : (-1108378657 : Int32) * ((31 : Int32) * a) = (-1108378657 : Int32) * ((31 : Int32) * c) := by rw [r]
  rwa [← Int32.mul_assoc, ← Int32.mul_assoc, i, Int32.one_mul, Int32.one_mul] at v)
theorem own_pn2 : plainName "java/lang/Record" = true := by first | (simp [plainName, overriddenIn]; done) | decide +kernel
theorem own_pn1 : plainName "com/example/modelspan/modelspan/uml/UmlMultiplicity" = true := by first | (simp [plainName, overriddenIn]; done) | decide +kernel
theorem own_pd0 : parseMethodDescriptor "()V" = some ⟨[], none⟩ := by decide +kernel
theorem own_pn4 : plainName "com/example/modelspan/modelspan/uml/UmlMultiplicity" = true := by first | (simp [plainName, overriddenIn]; done) | decide +kernel
theorem own_pn0 : plainName "com/example/modelspan/modelspan/uml/UmlMultiplicityHashCodePinLaw" = true := by first | (simp [plainName, overriddenIn]; done) | decide +kernel
theorem own_pd1 : parseMethodDescriptor "(II)V" = some ⟨[.int, .int], none⟩ := by decide +kernel
theorem own_pd2 : parseMethodDescriptor "()I" = some ⟨[], some .int⟩ := by decide +kernel
theorem own_d2_0 : decode jdk_30_method_1_code 0 = .ok (.aload_n 0, 1) := by decide +kernel
theorem own_d2_1 : decode jdk_30_method_1_code 1 = .ok (.invokespecial 1, 3) := by decide +kernel
theorem own_d2_4 : decode jdk_30_method_1_code 4 = .ok (.return_, 1) := by decide +kernel
theorem own_ef2 (m : MethodId) (x0 : Addr) : entryFrame m #[(.ref x0)] 1 = mkF m 0 #[.val (.ref x0)] [] := by first | (simp [entryFrame, mkF, argsToLocals, Value.category]; done) | rfl
def own_Q2 (Z : State) (a1 : Addr) (h0 : Heap) (n0 : Nat) (v : Option Value) (h : Heap) (L : List Loc) : Prop := v = none ∧ Fr n0 L ∧ h = h0
set_option maxRecDepth 65536 in
set_option maxHeartbeats 40000000 in
theorem rm2 (l : Launch) (Z : State) (a0 : Array Value) (hw : ∀ d ∈ tables_1, d.before a0 Z = true) (ws : List Jvm.Cond) (a1 : Addr) (h0 : Heap) (n0 : Nat) (Z0 : n0 ≤ h0.size)  :
    MetFree l (⟨"java/lang/Record", "<init>", "()V"⟩ : MethodName) (head1 (Jvm.Cond.code (⟨"java/lang/Record", "<init>", "()V"⟩ : MethodName) jdk_30_method_1_code 1 none :: ws) ({ frames := 1, cells := 0, slots := 0, locals := 12 } : Room)) (fun a U => a = #[(.ref a1)] ∧ Z.Warmed39 U.vm ∧ U.heap = h0) (fun _ _ _ _ _ => True) (fun _ U o U' => ∃ v L, o = .returned v ∧ own_Q2 Z a1 h0 n0 v U'.heap L ∧ FrameEnd U o U' L ({ frames := 1, cells := 0, slots := 0, locals := 12 } : Room).cells ({ frames := 1, cells := 0, slots := 0, locals := 12 } : Room).slots) := by
  refine MetFree.of_bodySF (plainFor_of_name own_pn2) hisR ?_
  intro p e s m args below meth c s₁ Bd hml0 hP hK
  obtain ⟨rfl, hZ, hh⟩ := hP
  have hx := Bd.exec
  have hby := Bd.bytes
  have hml : c.maxLocals = 1 := hml0
  have hown : s.vm.findClass "java/lang/Record" = some m.cls := findClass_of_methodNamed Bd.named
  have hnm := (name_of_methodNamed Bd.named Bd.method).1
  have X0 : Stand p l e ({ frames := 1, cells := 0, slots := 0, locals := 12 } : Room) s m #[(.ref a1)] below meth c s₁ [] 0 0 := Stand.of_body Bd
  have e0 : s₁.heap = h0 := by rw [← hh, Bd.state]; rfl
  have N0 := Fr.nil n0
  have pre0 : ∀ t, Steps p.tables e below (s₁.setTop (mkF m 0 #[.val (.ref a1)] [])) t → Steps p.tables e below (s₁.setTop (entryFrame m #[(.ref a1)] 1)) t := fun t k => castTop (own_ef2 m a1) k
  obtain ⟨T1, X1, e1, st1⟩ := initO X0 hx hZ hown (hw _ (List.mem_of_getElem? (i := 11) rfl)) (hw _ (List.mem_of_getElem? (i := 12) rfl)) (hw _ (List.mem_of_getElem? (i := 13) rfl)) e0 (g := (mkF m 1 #[.val (.ref a1)] [(.ref a1)])) rfl (by rw [hml]; rfl) rfl (hb hby own_d2_1) (by decide) (W := 0) (by show 2 * 0 + _ ≤ _; exact Nat.le_of_eq rfl) (by decide)
  have pre2 : ∀ t, Steps p.tables e below (T1.setTop (mkF m 4 #[.val (.ref a1)] [])) t → Steps p.tables e below (s₁.setTop (entryFrame m #[(.ref a1)] 1)) t := by
    intro t k
    refine pre0 _ ?_
    show Steps p.tables e below (s₁.setTop (mkF m 0 #[.val (.ref a1)] [])) _
    refine XS.aloadN X0.here hx rfl (hb hby own_d2_0) rfl rfl ?_
    show Steps p.tables e below (s₁.setTop (mkF m 1 #[.val (.ref a1)] [(.ref a1)])) _
    refine st1 _ ?_
    exact k
  obtain ⟨fs, hr, hrun, hended, hW, hsame⟩ := X1.leave (v := none) (fun _ => rfl)
  refine ⟨_, _, pre2 _ ?_, hrun, hended, _, _, rfl, ?_, ⟨_, rfl⟩, hW, hsame.mono (by decide) (by decide)⟩
  · show Steps p.tables e below (T1.setTop (mkF m 4 #[.val (.ref a1)] [])) _
    exact X1.returnOut hx Bd.returns (hb hby own_d2_4) hr
  · show own_Q2 Z a1 h0 n0 _ T1.heap _
    rw [e1]
    exact ⟨rfl, N0, rfl⟩
theorem own_d1_0 : decode prog_94_method_1_code 0 = .ok (.aload_n 0, 1) := by decide +kernel
theorem own_d1_1 : decode prog_94_method_1_code 1 = .ok (.invokespecial 1, 3) := by decide +kernel
theorem own_d1_4 : decode prog_94_method_1_code 4 = .ok (.aload_n 0, 1) := by decide +kernel
theorem own_d1_5 : decode prog_94_method_1_code 5 = .ok (.iload_n 1, 1) := by decide +kernel
theorem own_d1_6 : decode prog_94_method_1_code 6 = .ok (.putfield 7, 3) := by decide +kernel
theorem own_d1_9 : decode prog_94_method_1_code 9 = .ok (.aload_n 0, 1) := by decide +kernel
theorem own_d1_10 : decode prog_94_method_1_code 10 = .ok (.iload_n 2, 1) := by decide +kernel
theorem own_d1_11 : decode prog_94_method_1_code 11 = .ok (.putfield 13, 3) := by decide +kernel
theorem own_d1_14 : decode prog_94_method_1_code 14 = .ok (.return_, 1) := by decide +kernel
theorem own_ef1 (m : MethodId) (x0 : Addr) (x1 : Int32) (x2 : Int32) : entryFrame m #[(.ref x0), (.int x1), (.int x2)] 3 = mkF m 0 #[.val (.ref x0), .val (.int x1), .val (.int x2)] [] := by first | (simp [entryFrame, mkF, argsToLocals, Value.category]; done) | rfl
def own_Q1 (Z : State) (a1 : Addr) (p2 : Int32) (p3 : Int32) (u1 : Value) (u2 : Value) (h0 : Heap) (n0 : Nat) (v : Option Value) (h : Heap) (L : List Loc) : Prop := v = none ∧ Fr n0 L ∧ Keep h0 h [a1] ∧ Exa Z h a1 "com/example/modelspan/modelspan/uml/UmlMultiplicity" ∧ Fld Z h a1 "com/example/modelspan/modelspan/uml/UmlMultiplicity" "lower" "I" (.int p2) ∧ Fld Z h a1 "com/example/modelspan/modelspan/uml/UmlMultiplicity" "upper" "I" (.int p3)
set_option maxRecDepth 65536 in
set_option maxHeartbeats 40000000 in
theorem rm1 (l : Launch) (Z : State) (a0 : Array Value) (hw : ∀ d ∈ tables_1, d.before a0 Z = true) (ws : List Jvm.Cond) (a1 : Addr) (p2 : Int32) (p3 : Int32) (u1 : Value) (u2 : Value) (h0 : Heap) (n0 : Nat) (Z0 : n0 ≤ h0.size) (E_a1 : Exa Z h0 a1 "com/example/modelspan/modelspan/uml/UmlMultiplicity") (F_lower_a1 : Fld Z h0 a1 "com/example/modelspan/modelspan/uml/UmlMultiplicity" "lower" "I" u1) (F_upper_a1 : Fld Z h0 a1 "com/example/modelspan/modelspan/uml/UmlMultiplicity" "upper" "I" u2) (g_a1 : n0 ≤ a1) :
    MetFree l (⟨"com/example/modelspan/modelspan/uml/UmlMultiplicity", "<init>", "(II)V"⟩ : MethodName) (head1 (Jvm.Cond.code (⟨"com/example/modelspan/modelspan/uml/UmlMultiplicity", "<init>", "(II)V"⟩ : MethodName) prog_94_method_1_code 3 none :: ws) ({ frames := 2, cells := 0, slots := 0, locals := 24 } : Room)) (fun a U => a = #[(.ref a1), (.int p2), (.int p3)] ∧ Z.Warmed39 U.vm ∧ U.heap = h0) (fun _ _ _ _ _ => True) (fun _ U o U' => ∃ v L, o = .returned v ∧ own_Q1 Z a1 p2 p3 u1 u2 h0 n0 v U'.heap L ∧ FrameEnd U o U' L ({ frames := 2, cells := 0, slots := 0, locals := 24 } : Room).cells ({ frames := 2, cells := 0, slots := 0, locals := 24 } : Room).slots) := by
  refine MetFree.of_bodySF (plainFor_of_name own_pn1) hisR ?_
  intro p e s m args below meth c s₁ Bd hml0 hP hK
  obtain ⟨rfl, hZ, hh⟩ := hP
  have hx := Bd.exec
  have hby := Bd.bytes
  have hml : c.maxLocals = 3 := hml0
  have hown : s.vm.findClass "com/example/modelspan/modelspan/uml/UmlMultiplicity" = some m.cls := findClass_of_methodNamed Bd.named
  have hnm := (name_of_methodNamed Bd.named Bd.method).1
  have X0 : Stand p l e ({ frames := 2, cells := 0, slots := 0, locals := 24 } : Room) s m #[(.ref a1), (.int p2), (.int p3)] below meth c s₁ [] 0 0 := Stand.of_body Bd
  have e0 : s₁.heap = h0 := by rw [← hh, Bd.state]; rfl
  have N0 := Fr.nil n0
  have pre0 : ∀ t, Steps p.tables e below (s₁.setTop (mkF m 0 #[.val (.ref a1), .val (.int p2), .val (.int p3)] [])) t → Steps p.tables e below (s₁.setTop (entryFrame m #[(.ref a1), (.int p2), (.int p3)] 3)) t := fun t k => castTop (own_ef1 m a1 p2 p3) k
  have K0 := Keep.refl h0 [a1]
  obtain ⟨_, _, ⟨T1, L1, k1, n1⟩, -, X1, ⟨Lc1, hQ1, l1, y1, z1⟩, st1⟩ := X0.specialBack hx (y := (⟨"java/lang/Record", "<init>", "()V"⟩ : MethodName)) rfl hown (mvT hZ (hw _ (List.mem_of_getElem? (i := 6) rfl))) (mvT hZ (hw _ (List.mem_of_getElem? (i := 7) rfl))) (mvT hZ (hw _ (List.mem_of_getElem? (i := 10) rfl))) (by decide) (backOf (W := 0) (rm2 l Z a0 hw [] a1  h0 n0 Z0 ) hZ (hw _ (List.mem_of_getElem? (i := 10) rfl)) (hw _ (List.mem_of_getElem? (i := 9) rfl)) (by decide) (by decide)) (g := (mkF m 1 #[.val (.ref a1), .val (.int p2), .val (.int p3)] [(.ref a1)])) rfl (by rw [hml]; rfl) (Steps.refl _) (a := a1) (argsL := []) (rest := []) (lenOf own_pd0 rfl) rfl (by show 2 * 0 + _ ≤ _; exact Nat.le_of_eq rfl) (hb hby own_d1_1) (fun _ _ => ⟨rfl, e0, (by decide : 0 + 0 ≤ _), (by decide : 0 + 0 ≤ _)⟩)
  dsimp only [Pt.U, Pt.locs, Pt.cells, Pt.slots] at X1 l1 y1 z1 st1 hQ1
  subst l1 y1 z1
  obtain ⟨rfl, N1q, e1⟩ := hQ1
  have N1 := Fr.app N0 N1q
  obtain ⟨T2, h2, X2, e2, W2, st2⟩ := putF X1 hx hZ hown (host := "") (Or.inl (hw _ (List.mem_of_getElem? (i := 14) rfl))) Via.refl e1 F_lower_a1 E_a1 (Or.inr ⟨(hw _ (List.mem_of_getElem? (i := 15) rfl)), rfl, hnm⟩) (hw _ (List.mem_of_getElem? (i := 1) rfl)) (ty := .int) (by decide) rfl rfl (g := (mkF m 6 #[.val (.ref a1), .val (.int p2), .val (.int p3)] [(.int p2), (.ref a1)])) rfl rfl (hb hby own_d1_6)
  have E_a1 := E_a1.wr W2
  have F_upper_a1 := F_upper_a1.other W2 (Or.inr (slot_ne (Or.inr (hw _ (List.mem_of_getElem? (i := 17) rfl))) (Or.inr (hw _ (List.mem_of_getElem? (i := 15) rfl))) (by decide) (t := .int) (t' := .int) (by decide) (by decide)))
  have Z2 : n0 ≤ h2.size := Nat.le_trans Z0 (Keep.of_wr W2).1
  have K2 := K0.wr W2 (Or.inl (List.mem_of_getElem? (i := 0) rfl))
  have N2 := Fr.snoc X2 N1 g_a1
  have F_lower_a1 : Fld Z h2 a1 "com/example/modelspan/modelspan/uml/UmlMultiplicity" "lower" "I" (.int p2) := F_lower_a1.same W2
  obtain ⟨T3, h3, X3, e3, W3, st3⟩ := putF X2 hx hZ hown (host := "") (Or.inl (hw _ (List.mem_of_getElem? (i := 16) rfl))) Via.refl e2 F_upper_a1 E_a1 (Or.inr ⟨(hw _ (List.mem_of_getElem? (i := 17) rfl)), rfl, hnm⟩) (hw _ (List.mem_of_getElem? (i := 1) rfl)) (ty := .int) (by decide) rfl rfl (g := (mkF m 11 #[.val (.ref a1), .val (.int p2), .val (.int p3)] [(.int p3), (.ref a1)])) rfl rfl (hb hby own_d1_11)
  have E_a1 := E_a1.wr W3
  have F_lower_a1 := F_lower_a1.other W3 (Or.inr (slot_ne (Or.inr (hw _ (List.mem_of_getElem? (i := 15) rfl))) (Or.inr (hw _ (List.mem_of_getElem? (i := 17) rfl))) (by decide) (t := .int) (t' := .int) (by decide) (by decide)))
  have Z3 : n0 ≤ h3.size := Nat.le_trans Z2 (Keep.of_wr W3).1
  have K3 := K2.wr W3 (Or.inl (List.mem_of_getElem? (i := 0) rfl))
  have N3 := Fr.snoc X3 N2 g_a1
  have F_upper_a1 : Fld Z h3 a1 "com/example/modelspan/modelspan/uml/UmlMultiplicity" "upper" "I" (.int p3) := F_upper_a1.same W3
  have pre4 : ∀ t, Steps p.tables e below (T3.setTop (mkF m 14 #[.val (.ref a1), .val (.int p2), .val (.int p3)] [])) t → Steps p.tables e below (s₁.setTop (entryFrame m #[(.ref a1), (.int p2), (.int p3)] 3)) t := by
    intro t k
    refine pre0 _ ?_
    show Steps p.tables e below (s₁.setTop (mkF m 0 #[.val (.ref a1), .val (.int p2), .val (.int p3)] [])) _
    refine XS.aloadN X0.here hx rfl (hb hby own_d1_0) rfl rfl ?_
    show Steps p.tables e below (s₁.setTop (mkF m 1 #[.val (.ref a1), .val (.int p2), .val (.int p3)] [(.ref a1)])) _
    refine st1.trans ?_
    show Steps p.tables e below (T1.setTop (mkF m 4 #[.val (.ref a1), .val (.int p2), .val (.int p3)] [])) _
    refine XS.aloadN X1.here hx rfl (hb hby own_d1_4) rfl rfl ?_
    show Steps p.tables e below (T1.setTop (mkF m 5 #[.val (.ref a1), .val (.int p2), .val (.int p3)] [(.ref a1)])) _
    refine XS.iloadN X1.here hx rfl (hb hby own_d1_5) rfl ?_
    show Steps p.tables e below (T1.setTop (mkF m 6 #[.val (.ref a1), .val (.int p2), .val (.int p3)] [(.int p2), (.ref a1)])) _
    refine st2 _ ?_
    show Steps p.tables e below (T2.setTop (mkF m 9 #[.val (.ref a1), .val (.int p2), .val (.int p3)] [])) _
    refine XS.aloadN X2.here hx rfl (hb hby own_d1_9) rfl rfl ?_
    show Steps p.tables e below (T2.setTop (mkF m 10 #[.val (.ref a1), .val (.int p2), .val (.int p3)] [(.ref a1)])) _
    refine XS.iloadN X2.here hx rfl (hb hby own_d1_10) rfl ?_
    show Steps p.tables e below (T2.setTop (mkF m 11 #[.val (.ref a1), .val (.int p2), .val (.int p3)] [(.int p3), (.ref a1)])) _
    refine st3 _ ?_
    exact k
  obtain ⟨fs, hr, hrun, hended, hW, hsame⟩ := X3.leave (v := none) (fun _ => rfl)
  refine ⟨_, _, pre4 _ ?_, hrun, hended, _, _, rfl, ?_, ⟨_, rfl⟩, hW, hsame.mono (by decide) (by decide)⟩
  · show Steps p.tables e below (T3.setTop (mkF m 14 #[.val (.ref a1), .val (.int p2), .val (.int p3)] [])) _
    exact X3.returnOut hx Bd.returns (hb hby own_d1_14) hr
  · show own_Q1 Z a1 p2 p3 u1 u2 h0 n0 _ T3.heap _
    rw [e3]
    exact ⟨rfl, N3, K3, E_a1, F_lower_a1, F_upper_a1⟩
theorem own_d4_0 : decode prog_94_method_3_code 0 = .ok (.bipush 31, 2) := by decide +kernel
theorem own_d4_2 : decode prog_94_method_3_code 2 = .ok (.aload_n 0, 1) := by decide +kernel
theorem own_d4_3 : decode prog_94_method_3_code 3 = .ok (.getfield 7, 3) := by decide +kernel
theorem own_d4_6 : decode prog_94_method_3_code 6 = .ok (.imul, 1) := by decide +kernel
theorem own_d4_7 : decode prog_94_method_3_code 7 = .ok (.aload_n 0, 1) := by decide +kernel
theorem own_d4_8 : decode prog_94_method_3_code 8 = .ok (.getfield 13, 3) := by decide +kernel
theorem own_d4_11 : decode prog_94_method_3_code 11 = .ok (.iadd, 1) := by decide +kernel
theorem own_d4_12 : decode prog_94_method_3_code 12 = .ok (.ireturn, 1) := by decide +kernel
theorem own_ef4 (m : MethodId) (x0 : Addr) : entryFrame m #[(.ref x0)] 1 = mkF m 0 #[.val (.ref x0)] [] := by first | (simp [entryFrame, mkF, argsToLocals, Value.category]; done) | rfl
def own_Q4 (Z : State) (a1 : Addr) (w1 : Int32) (w2 : Int32) (h0 : Heap) (n0 : Nat) (v : Option Value) (h : Heap) (L : List Loc) : Prop := v = some (.int (((31 : Int32) * w1) + w2)) ∧ Fr n0 L ∧ h = h0
set_option maxRecDepth 65536 in
set_option maxHeartbeats 40000000 in
theorem rm4 (l : Launch) (Z : State) (a0 : Array Value) (hw : ∀ d ∈ tables_1, d.before a0 Z = true) (ws : List Jvm.Cond) (a1 : Addr) (w1 : Int32) (w2 : Int32) (h0 : Heap) (n0 : Nat) (Z0 : n0 ≤ h0.size) (F_lower_a1 : Fld Z h0 a1 "com/example/modelspan/modelspan/uml/UmlMultiplicity" "lower" "I" (.int w1)) (F_upper_a1 : Fld Z h0 a1 "com/example/modelspan/modelspan/uml/UmlMultiplicity" "upper" "I" (.int w2)) :
    MetFree l (⟨"com/example/modelspan/modelspan/uml/UmlMultiplicity", "hashCode", "()I"⟩ : MethodName) (head1 (Jvm.Cond.code (⟨"com/example/modelspan/modelspan/uml/UmlMultiplicity", "hashCode", "()I"⟩ : MethodName) prog_94_method_3_code 1 (some .int) :: ws) ({ frames := 0, cells := 0, slots := 0, locals := 0 } : Room)) (fun a U => a = #[(.ref a1)] ∧ Z.Warmed39 U.vm ∧ U.heap = h0) (fun _ _ _ _ _ => True) (fun _ U o U' => ∃ v L, o = .returned v ∧ own_Q4 Z a1 w1 w2 h0 n0 v U'.heap L ∧ FrameEnd U o U' L ({ frames := 0, cells := 0, slots := 0, locals := 0 } : Room).cells ({ frames := 0, cells := 0, slots := 0, locals := 0 } : Room).slots) := by
  refine MetFree.of_bodySF (plainFor_of_name own_pn4) hisR ?_
  intro p e s m args below meth c s₁ Bd hml0 hP hK
  obtain ⟨rfl, hZ, hh⟩ := hP
  have hx := Bd.exec
  have hby := Bd.bytes
  have hml : c.maxLocals = 1 := hml0
  have hown : s.vm.findClass "com/example/modelspan/modelspan/uml/UmlMultiplicity" = some m.cls := findClass_of_methodNamed Bd.named
  have hnm := (name_of_methodNamed Bd.named Bd.method).1
  have X0 : Stand p l e ({ frames := 0, cells := 0, slots := 0, locals := 0 } : Room) s m #[(.ref a1)] below meth c s₁ [] 0 0 := Stand.of_body Bd
  have e0 : s₁.heap = h0 := by rw [← hh, Bd.state]; rfl
  have N0 := Fr.nil n0
  have pre0 : ∀ t, Steps p.tables e below (s₁.setTop (mkF m 0 #[.val (.ref a1)] [])) t → Steps p.tables e below (s₁.setTop (entryFrame m #[(.ref a1)] 1)) t := fun t k => castTop (own_ef4 m a1) k
  obtain ⟨T1, X1, e1, st1⟩ := getF X0 hx hZ hown (host := "") (Or.inl (hw _ (List.mem_of_getElem? (i := 14) rfl))) Via.refl e0 F_lower_a1 (g := (mkF m 3 #[.val (.ref a1)] [(.ref a1), (.int (31 : Int32))])) rfl rfl (hb hby own_d4_3)
  obtain ⟨T2, X2, e2, st2⟩ := getF X1 hx hZ hown (host := "") (Or.inl (hw _ (List.mem_of_getElem? (i := 16) rfl))) Via.refl e1 F_upper_a1 (g := (mkF m 8 #[.val (.ref a1)] [(.ref a1), (.int ((31 : Int32) * w1))])) rfl rfl (hb hby own_d4_8)
  have pre3 : ∀ t, Steps p.tables e below (T2.setTop (mkF m 12 #[.val (.ref a1)] [(.int (((31 : Int32) * w1) + w2))])) t → Steps p.tables e below (s₁.setTop (entryFrame m #[(.ref a1)] 1)) t := by
    intro t k
    refine pre0 _ ?_
    show Steps p.tables e below (s₁.setTop (mkF m 0 #[.val (.ref a1)] [])) _
    refine XS.bipush X0.here hx rfl (hb hby own_d4_0) ?_
    show Steps p.tables e below (s₁.setTop (mkF m 2 #[.val (.ref a1)] [(.int (31 : Int32))])) _
    refine XS.aloadN X0.here hx rfl (hb hby own_d4_2) rfl rfl ?_
    show Steps p.tables e below (s₁.setTop (mkF m 3 #[.val (.ref a1)] [(.ref a1), (.int (31 : Int32))])) _
    refine st1 _ ?_
    show Steps p.tables e below (T1.setTop (mkF m 6 #[.val (.ref a1)] [(.int w1), (.int (31 : Int32))])) _
    refine XS.imul X1.here hx rfl (hb hby own_d4_6) rfl ?_
    show Steps p.tables e below (T1.setTop (mkF m 7 #[.val (.ref a1)] [(.int ((31 : Int32) * w1))])) _
    refine XS.aloadN X1.here hx rfl (hb hby own_d4_7) rfl rfl ?_
    show Steps p.tables e below (T1.setTop (mkF m 8 #[.val (.ref a1)] [(.ref a1), (.int ((31 : Int32) * w1))])) _
    refine st2 _ ?_
    show Steps p.tables e below (T2.setTop (mkF m 11 #[.val (.ref a1)] [(.int w2), (.int ((31 : Int32) * w1))])) _
    refine XS.iadd X2.here hx rfl (hb hby own_d4_11) rfl ?_
    exact k
  obtain ⟨fs, hr, hrun, hended, hW, hsame⟩ := X2.leave (v := some (.int (((31 : Int32) * w1) + w2))) (fun h => by rw [Bd.returns] at h; cases h)
  refine ⟨_, _, pre3 _ ?_, hrun, hended, _, _, rfl, ?_, ⟨_, rfl⟩, hW, hsame.mono (by decide) (by decide)⟩
  · show Steps p.tables e below (T2.setTop (mkF m 12 #[.val (.ref a1)] [(.int (((31 : Int32) * w1) + w2))])) _
    exact retI X2 hx Bd.returns (hb hby own_d4_12) hr
  · show own_Q4 Z a1 w1 w2 h0 n0 _ T2.heap _
    rw [e2]
    exact ⟨rfl, N0, rfl⟩
theorem own_ef0 (m : MethodId) (x0 : Int32) (x1 : Int32) (x2 : Int32) (x3 : Int32) : entryFrame m #[(.int x0), (.int x1), (.int x2), (.int x3)] maxLocals = mkF m 0 #[.val (.int x0), .val (.int x1), .val (.int x2), .val (.int x3), .unset, .unset, .unset, .unset, .unset, .unset, .unset, .unset] [] := by first | (simp [entryFrame, mkF, argsToLocals, Value.category, maxLocals]; done) | rfl
def own_Q0 (Z : State) (p1 : Int32) (p2 : Int32) (p3 : Int32) (p4 : Int32) (h0 : Heap) (n0 : Nat) (v : Option Value) (h : Heap) (L : List Loc) : Prop := v = some (.int (1 : Int32)) ∧ Fr n0 L
set_option maxRecDepth 65536 in
set_option maxHeartbeats 40000000 in
theorem rm0 (l : Launch) (Z : State) (a0 : Array Value) (hw : ∀ d ∈ tables_1, d.before a0 Z = true) (ws : List Jvm.Cond) (p1 : Int32) (p2 : Int32) (p3 : Int32) (p4 : Int32) (h0 : Heap) (n0 : Nat) (Z0 : n0 ≤ h0.size)  :
    MetFree l x (head1 (Jvm.Cond.code x code maxLocals ret :: ws) room_1) (fun a U => a = #[(.int p1), (.int p2), (.int p3), (.int p4)] ∧ Z.Warmed39 U.vm ∧ U.heap = h0) (fun _ _ _ _ _ => True) (fun _ U o U' => ∃ v L, o = .returned v ∧ own_Q0 Z p1 p2 p3 p4 h0 n0 v U'.heap L ∧ FrameEnd U o U' L room_1.cells room_1.slots) := by
  refine MetFree.of_bodySF (plainFor_of_name own_pn0) hisR ?_
  intro p e s m args below meth c s₁ Bd hml0 hP hK
  obtain ⟨rfl, hZ, hh⟩ := hP
  have hx := Bd.exec
  have hby := Bd.bytes
  have hml : c.maxLocals = 12 := hml0
  have hown : s.vm.findClass "com/example/modelspan/modelspan/uml/UmlMultiplicityHashCodePinLaw" = some m.cls := findClass_of_methodNamed Bd.named
  have hnm := (name_of_methodNamed Bd.named Bd.method).1
  have X0 : Stand p l e room_1 s m #[(.int p1), (.int p2), (.int p3), (.int p4)] below meth c s₁ [] 0 0 := Stand.of_body Bd
  have e0 : s₁.heap = h0 := by rw [← hh, Bd.state]; rfl
  have N0 := Fr.nil n0
  have pre0 : ∀ t, Steps p.tables e below (s₁.setTop (mkF m 0 #[.val (.int p1), .val (.int p2), .val (.int p3), .val (.int p4), .unset, .unset, .unset, .unset, .unset, .unset, .unset, .unset] [])) t → Steps p.tables e below (s₁.setTop (entryFrame m #[(.int p1), (.int p2), (.int p3), (.int p4)] maxLocals)) t := fun t k => castTop (own_ef0 m p1 p2 p3 p4) k
  obtain ⟨T1, h1, X1, e1, E1, A1, D1, -, st1⟩ := newO X0 hx hZ hown (hw _ (List.mem_of_getElem? (i := 0) rfl)) (hw _ (List.mem_of_getElem? (i := 1) rfl)) (hw _ (List.mem_of_getElem? (i := 2) rfl)) e0 (g := (mkF m 0 #[.val (.int p1), .val (.int p2), .val (.int p3), .val (.int p4), .unset, .unset, .unset, .unset, .unset, .unset, .unset, .unset] [])) rfl (hb hby at_0) (by decide) (by decide)
  obtain ⟨b1, g1⟩ : ∃ z, z = h0.size := ⟨_, rfl⟩
  rw [← g1] at A1 D1 st1
  have g_b1 : n0 ≤ b1 := Nat.le_trans Z0 (Nat.le_of_eq g1.symm)
  have Z1 : n0 ≤ h1.size := Nat.le_trans Z0 E1.1
  have E_b1 : Exa Z h1 b1 "com/example/modelspan/modelspan/uml/UmlMultiplicity" := A1
  have F_lower_b1 : Fld Z h1 b1 "com/example/modelspan/modelspan/uml/UmlMultiplicity" "lower" "I" (.int (0 : Int32)) := D1 (Or.inr (hw _ (List.mem_of_getElem? (i := 15) rfl))) (ty := .int) (by decide)
  have F_upper_b1 : Fld Z h1 b1 "com/example/modelspan/modelspan/uml/UmlMultiplicity" "upper" "I" (.int (0 : Int32)) := D1 (Or.inr (hw _ (List.mem_of_getElem? (i := 17) rfl))) (ty := .int) (by decide)
  obtain ⟨_, _, ⟨T2, L2, k2, n2⟩, -, X2, ⟨Lc2, hQ2, l2, y2, z2⟩, st2⟩ := X1.specialBack hx (y := (⟨"com/example/modelspan/modelspan/uml/UmlMultiplicity", "<init>", "(II)V"⟩ : MethodName)) rfl hown (mvT hZ (hw _ (List.mem_of_getElem? (i := 3) rfl))) (mvT hZ (hw _ (List.mem_of_getElem? (i := 4) rfl))) (mvT hZ (hw _ (List.mem_of_getElem? (i := 5) rfl))) (by decide) (backOf (W := 1) (rm1 l Z a0 hw [] b1 p1 p2 ((.int (0 : Int32))) ((.int (0 : Int32))) h1 n0 Z1 E_b1 F_lower_b1 F_upper_b1 g_b1) hZ (hw _ (List.mem_of_getElem? (i := 5) rfl)) (hw _ (List.mem_of_getElem? (i := 2) rfl)) (by decide) (by decide)) (g := (mkF m 6 #[.val (.int p1), .val (.int p2), .val (.int p3), .val (.int p4), .unset, .unset, .unset, .unset, .unset, .unset, .unset, .unset] [(.int p2), (.int p1), (.ref b1), (.ref b1)])) rfl (by rw [hml]; rfl) (Steps.refl _) (a := b1) (argsL := [(.int p1), (.int p2)]) (rest := [(.ref b1)]) (lenOf own_pd1 rfl) rfl (by show 2 * 0 + _ ≤ _; exact Nat.le_of_eq rfl) (hb hby at_6) (fun _ _ => ⟨rfl, e1, (by decide : 1 + 0 ≤ _), (by decide : 2 + 0 ≤ _)⟩)
  dsimp only [Pt.U, Pt.locs, Pt.cells, Pt.slots] at X2 l2 y2 z2 st2 hQ2
  subst l2 y2 z2
  obtain ⟨rfl, N2q, Kq2, P2_0, P2_1, P2_2⟩ := hQ2
  have N2 := Fr.app N0 N2q
  have E_b1 := P2_0
  have F_lower_b1 := P2_1
  have F_upper_b1 := P2_2
  have Z2 : n0 ≤ T2.heap.size := Nat.le_trans Z1 Kq2.1
  obtain ⟨T3, h3, X3, e3, E3, A3, D3, -, st3⟩ := newO X2 hx hZ hown (hw _ (List.mem_of_getElem? (i := 0) rfl)) (hw _ (List.mem_of_getElem? (i := 1) rfl)) (hw _ (List.mem_of_getElem? (i := 2) rfl)) rfl (g := (mkF m 11 #[.val (.int p1), .val (.int p2), .val (.int p3), .val (.int p4), .val (.ref b1), .unset, .unset, .unset, .unset, .unset, .unset, .unset] [])) rfl (hb hby at_11) (by decide) (by decide)
  obtain ⟨b3, g3⟩ : ∃ z, z = T2.heap.size := ⟨_, rfl⟩
  rw [← g3] at A3 D3 st3
  have ne_b1_b3 : b1 ≠ b3 := Nat.ne_of_lt (Nat.lt_of_lt_of_le E_b1.lt (Nat.le_of_eq g3.symm))
  have g_b3 : n0 ≤ b3 := Nat.le_trans Z2 (Nat.le_of_eq g3.symm)
  have E_b1 := E_b1.ext E3
  have F_lower_b1 := F_lower_b1.ext E3
  have F_upper_b1 := F_upper_b1.ext E3
  have Z3 : n0 ≤ h3.size := Nat.le_trans Z2 E3.1
  have E_b3 : Exa Z h3 b3 "com/example/modelspan/modelspan/uml/UmlMultiplicity" := A3
  have F_lower_b3 : Fld Z h3 b3 "com/example/modelspan/modelspan/uml/UmlMultiplicity" "lower" "I" (.int (0 : Int32)) := D3 (Or.inr (hw _ (List.mem_of_getElem? (i := 15) rfl))) (ty := .int) (by decide)
  have F_upper_b3 : Fld Z h3 b3 "com/example/modelspan/modelspan/uml/UmlMultiplicity" "upper" "I" (.int (0 : Int32)) := D3 (Or.inr (hw _ (List.mem_of_getElem? (i := 17) rfl))) (ty := .int) (by decide)
  obtain ⟨_, _, ⟨T4, L4, k4, n4⟩, -, X4, ⟨Lc4, hQ4, l4, y4, z4⟩, st4⟩ := X3.specialBack hx (y := (⟨"com/example/modelspan/modelspan/uml/UmlMultiplicity", "<init>", "(II)V"⟩ : MethodName)) rfl hown (mvT hZ (hw _ (List.mem_of_getElem? (i := 3) rfl))) (mvT hZ (hw _ (List.mem_of_getElem? (i := 4) rfl))) (mvT hZ (hw _ (List.mem_of_getElem? (i := 5) rfl))) (by decide) (backOf (W := 1) (rm1 l Z a0 hw [] b3 p1 p2 ((.int (0 : Int32))) ((.int (0 : Int32))) h3 n0 Z3 E_b3 F_lower_b3 F_upper_b3 g_b3) hZ (hw _ (List.mem_of_getElem? (i := 5) rfl)) (hw _ (List.mem_of_getElem? (i := 2) rfl)) (by decide) (by decide)) (g := (mkF m 17 #[.val (.int p1), .val (.int p2), .val (.int p3), .val (.int p4), .val (.ref b1), .unset, .unset, .unset, .unset, .unset, .unset, .unset] [(.int p2), (.int p1), (.ref b3), (.ref b3)])) rfl (by rw [hml]; rfl) (Steps.refl _) (a := b3) (argsL := [(.int p1), (.int p2)]) (rest := [(.ref b3)]) (lenOf own_pd1 rfl) rfl (by show 2 * 0 + _ ≤ _; exact Nat.le_of_eq rfl) (hb hby at_17) (fun _ _ => ⟨rfl, e3, (by decide : 2 + 0 ≤ _), (by decide : 4 + 0 ≤ _)⟩)
  dsimp only [Pt.U, Pt.locs, Pt.cells, Pt.slots] at X4 l4 y4 z4 st4 hQ4
  subst l4 y4 z4
  obtain ⟨rfl, N4q, Kq4, P4_0, P4_1, P4_2⟩ := hQ4
  have N4 := Fr.app N2 N4q
  have E_b1 := E_b1.keep Kq4
  have F_lower_b1 := F_lower_b1.keep Kq4 (ninS ne_b1_b3 nin0)
  have F_upper_b1 := F_upper_b1.keep Kq4 (ninS ne_b1_b3 nin0)
  have E_b3 := P4_0
  have F_lower_b3 := P4_1
  have F_upper_b3 := P4_2
  have Z4 : n0 ≤ T4.heap.size := Nat.le_trans Z3 Kq4.1
  obtain ⟨T5, h5, X5, e5, E5, A5, D5, -, st5⟩ := newO X4 hx hZ hown (hw _ (List.mem_of_getElem? (i := 0) rfl)) (hw _ (List.mem_of_getElem? (i := 1) rfl)) (hw _ (List.mem_of_getElem? (i := 2) rfl)) rfl (g := (mkF m 22 #[.val (.int p1), .val (.int p2), .val (.int p3), .val (.int p4), .val (.ref b1), .val (.ref b3), .unset, .unset, .unset, .unset, .unset, .unset] [])) rfl (hb hby at_22) (by decide) (by decide)
  obtain ⟨b5, g5⟩ : ∃ z, z = T4.heap.size := ⟨_, rfl⟩
  rw [← g5] at A5 D5 st5
  have ne_b1_b5 : b1 ≠ b5 := Nat.ne_of_lt (Nat.lt_of_lt_of_le E_b1.lt (Nat.le_of_eq g5.symm))
  have ne_b3_b5 : b3 ≠ b5 := Nat.ne_of_lt (Nat.lt_of_lt_of_le E_b3.lt (Nat.le_of_eq g5.symm))
  have g_b5 : n0 ≤ b5 := Nat.le_trans Z4 (Nat.le_of_eq g5.symm)
  have E_b1 := E_b1.ext E5
  have F_lower_b1 := F_lower_b1.ext E5
  have F_upper_b1 := F_upper_b1.ext E5
  have E_b3 := E_b3.ext E5
  have F_lower_b3 := F_lower_b3.ext E5
  have F_upper_b3 := F_upper_b3.ext E5
  have Z5 : n0 ≤ h5.size := Nat.le_trans Z4 E5.1
  have E_b5 : Exa Z h5 b5 "com/example/modelspan/modelspan/uml/UmlMultiplicity" := A5
  have F_lower_b5 : Fld Z h5 b5 "com/example/modelspan/modelspan/uml/UmlMultiplicity" "lower" "I" (.int (0 : Int32)) := D5 (Or.inr (hw _ (List.mem_of_getElem? (i := 15) rfl))) (ty := .int) (by decide)
  have F_upper_b5 : Fld Z h5 b5 "com/example/modelspan/modelspan/uml/UmlMultiplicity" "upper" "I" (.int (0 : Int32)) := D5 (Or.inr (hw _ (List.mem_of_getElem? (i := 17) rfl))) (ty := .int) (by decide)
  obtain ⟨_, _, ⟨T6, L6, k6, n6⟩, -, X6, ⟨Lc6, hQ6, l6, y6, z6⟩, st6⟩ := X5.specialBack hx (y := (⟨"com/example/modelspan/modelspan/uml/UmlMultiplicity", "<init>", "(II)V"⟩ : MethodName)) rfl hown (mvT hZ (hw _ (List.mem_of_getElem? (i := 3) rfl))) (mvT hZ (hw _ (List.mem_of_getElem? (i := 4) rfl))) (mvT hZ (hw _ (List.mem_of_getElem? (i := 5) rfl))) (by decide) (backOf (W := 1) (rm1 l Z a0 hw [] b5 p1 p4 ((.int (0 : Int32))) ((.int (0 : Int32))) h5 n0 Z5 E_b5 F_lower_b5 F_upper_b5 g_b5) hZ (hw _ (List.mem_of_getElem? (i := 5) rfl)) (hw _ (List.mem_of_getElem? (i := 2) rfl)) (by decide) (by decide)) (g := (mkF m 28 #[.val (.int p1), .val (.int p2), .val (.int p3), .val (.int p4), .val (.ref b1), .val (.ref b3), .unset, .unset, .unset, .unset, .unset, .unset] [(.int p4), (.int p1), (.ref b5), (.ref b5)])) rfl (by rw [hml]; rfl) (Steps.refl _) (a := b5) (argsL := [(.int p1), (.int p4)]) (rest := [(.ref b5)]) (lenOf own_pd1 rfl) rfl (by show 2 * 0 + _ ≤ _; exact Nat.le_of_eq rfl) (hb hby at_28) (fun _ _ => ⟨rfl, e5, (by decide : 3 + 0 ≤ _), (by decide : 6 + 0 ≤ _)⟩)
  dsimp only [Pt.U, Pt.locs, Pt.cells, Pt.slots] at X6 l6 y6 z6 st6 hQ6
  subst l6 y6 z6
  obtain ⟨rfl, N6q, Kq6, P6_0, P6_1, P6_2⟩ := hQ6
  have N6 := Fr.app N4 N6q
  have E_b1 := E_b1.keep Kq6
  have F_lower_b1 := F_lower_b1.keep Kq6 (ninS ne_b1_b5 nin0)
  have F_upper_b1 := F_upper_b1.keep Kq6 (ninS ne_b1_b5 nin0)
  have E_b3 := E_b3.keep Kq6
  have F_lower_b3 := F_lower_b3.keep Kq6 (ninS ne_b3_b5 nin0)
  have F_upper_b3 := F_upper_b3.keep Kq6 (ninS ne_b3_b5 nin0)
  have E_b5 := P6_0
  have F_lower_b5 := P6_1
  have F_upper_b5 := P6_2
  have Z6 : n0 ≤ T6.heap.size := Nat.le_trans Z5 Kq6.1
  obtain ⟨T7, h7, X7, e7, E7, A7, D7, -, st7⟩ := newO X6 hx hZ hown (hw _ (List.mem_of_getElem? (i := 0) rfl)) (hw _ (List.mem_of_getElem? (i := 1) rfl)) (hw _ (List.mem_of_getElem? (i := 2) rfl)) rfl (g := (mkF m 33 #[.val (.int p1), .val (.int p2), .val (.int p3), .val (.int p4), .val (.ref b1), .val (.ref b3), .val (.ref b5), .unset, .unset, .unset, .unset, .unset] [])) rfl (hb hby at_33) (by decide) (by decide)
  obtain ⟨b7, g7⟩ : ∃ z, z = T6.heap.size := ⟨_, rfl⟩
  rw [← g7] at A7 D7 st7
  have ne_b1_b7 : b1 ≠ b7 := Nat.ne_of_lt (Nat.lt_of_lt_of_le E_b1.lt (Nat.le_of_eq g7.symm))
  have ne_b3_b7 : b3 ≠ b7 := Nat.ne_of_lt (Nat.lt_of_lt_of_le E_b3.lt (Nat.le_of_eq g7.symm))
  have ne_b5_b7 : b5 ≠ b7 := Nat.ne_of_lt (Nat.lt_of_lt_of_le E_b5.lt (Nat.le_of_eq g7.symm))
  have g_b7 : n0 ≤ b7 := Nat.le_trans Z6 (Nat.le_of_eq g7.symm)
  have E_b1 := E_b1.ext E7
  have F_lower_b1 := F_lower_b1.ext E7
  have F_upper_b1 := F_upper_b1.ext E7
  have E_b3 := E_b3.ext E7
  have F_lower_b3 := F_lower_b3.ext E7
  have F_upper_b3 := F_upper_b3.ext E7
  have E_b5 := E_b5.ext E7
  have F_lower_b5 := F_lower_b5.ext E7
  have F_upper_b5 := F_upper_b5.ext E7
  have Z7 : n0 ≤ h7.size := Nat.le_trans Z6 E7.1
  have E_b7 : Exa Z h7 b7 "com/example/modelspan/modelspan/uml/UmlMultiplicity" := A7
  have F_lower_b7 : Fld Z h7 b7 "com/example/modelspan/modelspan/uml/UmlMultiplicity" "lower" "I" (.int (0 : Int32)) := D7 (Or.inr (hw _ (List.mem_of_getElem? (i := 15) rfl))) (ty := .int) (by decide)
  have F_upper_b7 : Fld Z h7 b7 "com/example/modelspan/modelspan/uml/UmlMultiplicity" "upper" "I" (.int (0 : Int32)) := D7 (Or.inr (hw _ (List.mem_of_getElem? (i := 17) rfl))) (ty := .int) (by decide)
  obtain ⟨_, _, ⟨T8, L8, k8, n8⟩, -, X8, ⟨Lc8, hQ8, l8, y8, z8⟩, st8⟩ := X7.specialBack hx (y := (⟨"com/example/modelspan/modelspan/uml/UmlMultiplicity", "<init>", "(II)V"⟩ : MethodName)) rfl hown (mvT hZ (hw _ (List.mem_of_getElem? (i := 3) rfl))) (mvT hZ (hw _ (List.mem_of_getElem? (i := 4) rfl))) (mvT hZ (hw _ (List.mem_of_getElem? (i := 5) rfl))) (by decide) (backOf (W := 1) (rm1 l Z a0 hw [] b7 p3 p2 ((.int (0 : Int32))) ((.int (0 : Int32))) h7 n0 Z7 E_b7 F_lower_b7 F_upper_b7 g_b7) hZ (hw _ (List.mem_of_getElem? (i := 5) rfl)) (hw _ (List.mem_of_getElem? (i := 2) rfl)) (by decide) (by decide)) (g := (mkF m 39 #[.val (.int p1), .val (.int p2), .val (.int p3), .val (.int p4), .val (.ref b1), .val (.ref b3), .val (.ref b5), .unset, .unset, .unset, .unset, .unset] [(.int p2), (.int p3), (.ref b7), (.ref b7)])) rfl (by rw [hml]; rfl) (Steps.refl _) (a := b7) (argsL := [(.int p3), (.int p2)]) (rest := [(.ref b7)]) (lenOf own_pd1 rfl) rfl (by show 2 * 0 + _ ≤ _; exact Nat.le_of_eq rfl) (hb hby at_39) (fun _ _ => ⟨rfl, e7, (by decide : 4 + 0 ≤ _), (by decide : 8 + 0 ≤ _)⟩)
  dsimp only [Pt.U, Pt.locs, Pt.cells, Pt.slots] at X8 l8 y8 z8 st8 hQ8
  subst l8 y8 z8
  obtain ⟨rfl, N8q, Kq8, P8_0, P8_1, P8_2⟩ := hQ8
  have N8 := Fr.app N6 N8q
  have E_b1 := E_b1.keep Kq8
  have F_lower_b1 := F_lower_b1.keep Kq8 (ninS ne_b1_b7 nin0)
  have F_upper_b1 := F_upper_b1.keep Kq8 (ninS ne_b1_b7 nin0)
  have E_b3 := E_b3.keep Kq8
  have F_lower_b3 := F_lower_b3.keep Kq8 (ninS ne_b3_b7 nin0)
  have F_upper_b3 := F_upper_b3.keep Kq8 (ninS ne_b3_b7 nin0)
  have E_b5 := E_b5.keep Kq8
  have F_lower_b5 := F_lower_b5.keep Kq8 (ninS ne_b5_b7 nin0)
  have F_upper_b5 := F_upper_b5.keep Kq8 (ninS ne_b5_b7 nin0)
  have E_b7 := P8_0
  have F_lower_b7 := P8_1
  have F_upper_b7 := P8_2
  have Z8 : n0 ≤ T8.heap.size := Nat.le_trans Z7 Kq8.1
  obtain ⟨cq9, kq9, q9a, q9b, q9c⟩ := isOf hZ rfl E_b1
  obtain ⟨_, _, ⟨T9, L9, k9, n9⟩, -, X9, ⟨Lc9, hQ9, l9, y9, z9⟩, st9⟩ := X8.virtualBack hx (y := (⟨"com/example/modelspan/modelspan/uml/UmlMultiplicity", "hashCode", "()I"⟩ : MethodName)) (z := (⟨"com/example/modelspan/modelspan/uml/UmlMultiplicity", "hashCode", "()I"⟩ : MethodName)) hown (mvT hZ (hw _ (List.mem_of_getElem? (i := 18) rfl))) (mvT hZ (hw _ (List.mem_of_getElem? (i := 19) rfl))) (notFace_of_selects (args := #[]) (mvT hZ (hw _ (List.mem_of_getElem? (i := 21) rfl)))) (mvT hZ (hw _ (List.mem_of_getElem? (i := 21) rfl))) (mvT hZ (hw _ (List.mem_of_getElem? (i := 20) rfl))) (by decide) (backOf (W := 0) (rm4 l Z a0 hw [] b1 p1 p2 T8.heap n0 Z8 F_lower_b1 F_upper_b1) hZ (hw _ (List.mem_of_getElem? (i := 22) rfl)) (hw _ (List.mem_of_getElem? (i := 2) rfl)) (by decide) (by decide)) q9a q9c (g := (mkF m 46 #[.val (.int p1), .val (.int p2), .val (.int p3), .val (.int p4), .val (.ref b1), .val (.ref b3), .val (.ref b5), .val (.ref b7), .unset, .unset, .unset, .unset] [(.ref b1)])) rfl (by rw [hml]; rfl) (Steps.refl _) (argsL := []) (rest := []) (lenOf own_pd2 rfl) rfl (by show 2 * 0 + _ ≤ _; exact Nat.le_of_eq rfl) (hb hby at_46) (fun _ _ => ⟨rfl, rfl, (by decide : 4 + 0 ≤ _), (by decide : 8 + 0 ≤ _)⟩)
  dsimp only [Pt.U, Pt.locs, Pt.cells, Pt.slots] at X9 l9 y9 z9 st9 hQ9
  subst l9 y9 z9
  obtain ⟨rfl, N9q, e9⟩ := hQ9
  have N9 := Fr.app N8 N9q
  obtain ⟨cq10, kq10, q10a, q10b, q10c⟩ := isOf hZ e9 E_b3
  obtain ⟨_, _, ⟨T10, L10, k10, n10⟩, -, X10, ⟨Lc10, hQ10, l10, y10, z10⟩, st10⟩ := X9.virtualBack hx (y := (⟨"com/example/modelspan/modelspan/uml/UmlMultiplicity", "hashCode", "()I"⟩ : MethodName)) (z := (⟨"com/example/modelspan/modelspan/uml/UmlMultiplicity", "hashCode", "()I"⟩ : MethodName)) hown (mvT hZ (hw _ (List.mem_of_getElem? (i := 18) rfl))) (mvT hZ (hw _ (List.mem_of_getElem? (i := 19) rfl))) (notFace_of_selects (args := #[]) (mvT hZ (hw _ (List.mem_of_getElem? (i := 21) rfl)))) (mvT hZ (hw _ (List.mem_of_getElem? (i := 21) rfl))) (mvT hZ (hw _ (List.mem_of_getElem? (i := 20) rfl))) (by decide) (backOf (W := 0) (rm4 l Z a0 hw [] b3 p1 p2 T8.heap n0 Z8 F_lower_b3 F_upper_b3) hZ (hw _ (List.mem_of_getElem? (i := 22) rfl)) (hw _ (List.mem_of_getElem? (i := 2) rfl)) (by decide) (by decide)) q10a q10c (g := (mkF m 53 #[.val (.int p1), .val (.int p2), .val (.int p3), .val (.int p4), .val (.ref b1), .val (.ref b3), .val (.ref b5), .val (.ref b7), .val (.int (((31 : Int32) * p1) + p2)), .unset, .unset, .unset] [(.ref b3)])) rfl (by rw [hml]; rfl) (Steps.refl _) (argsL := []) (rest := []) (lenOf own_pd2 rfl) rfl (by show 2 * 0 + _ ≤ _; exact Nat.le_of_eq rfl) (hb hby at_53) (fun _ _ => ⟨rfl, e9, (by decide : 4 + 0 ≤ _), (by decide : 8 + 0 ≤ _)⟩)
  dsimp only [Pt.U, Pt.locs, Pt.cells, Pt.slots] at X10 l10 y10 z10 st10 hQ10
  subst l10 y10 z10
  obtain ⟨rfl, N10q, e10⟩ := hQ10
  have N10 := Fr.app N9 N10q
  obtain ⟨cq11, kq11, q11a, q11b, q11c⟩ := isOf hZ e10 E_b5
  obtain ⟨_, _, ⟨T11, L11, k11, n11⟩, -, X11, ⟨Lc11, hQ11, l11, y11, z11⟩, st11⟩ := X10.virtualBack hx (y := (⟨"com/example/modelspan/modelspan/uml/UmlMultiplicity", "hashCode", "()I"⟩ : MethodName)) (z := (⟨"com/example/modelspan/modelspan/uml/UmlMultiplicity", "hashCode", "()I"⟩ : MethodName)) hown (mvT hZ (hw _ (List.mem_of_getElem? (i := 18) rfl))) (mvT hZ (hw _ (List.mem_of_getElem? (i := 19) rfl))) (notFace_of_selects (args := #[]) (mvT hZ (hw _ (List.mem_of_getElem? (i := 21) rfl)))) (mvT hZ (hw _ (List.mem_of_getElem? (i := 21) rfl))) (mvT hZ (hw _ (List.mem_of_getElem? (i := 20) rfl))) (by decide) (backOf (W := 0) (rm4 l Z a0 hw [] b5 p1 p4 T8.heap n0 Z8 F_lower_b5 F_upper_b5) hZ (hw _ (List.mem_of_getElem? (i := 22) rfl)) (hw _ (List.mem_of_getElem? (i := 2) rfl)) (by decide) (by decide)) q11a q11c (g := (mkF m 60 #[.val (.int p1), .val (.int p2), .val (.int p3), .val (.int p4), .val (.ref b1), .val (.ref b3), .val (.ref b5), .val (.ref b7), .val (.int (((31 : Int32) * p1) + p2)), .val (.int (((31 : Int32) * p1) + p2)), .unset, .unset] [(.ref b5)])) rfl (by rw [hml]; rfl) (Steps.refl _) (argsL := []) (rest := []) (lenOf own_pd2 rfl) rfl (by show 2 * 0 + _ ≤ _; exact Nat.le_of_eq rfl) (hb hby at_60) (fun _ _ => ⟨rfl, e10, (by decide : 4 + 0 ≤ _), (by decide : 8 + 0 ≤ _)⟩)
  dsimp only [Pt.U, Pt.locs, Pt.cells, Pt.slots] at X11 l11 y11 z11 st11 hQ11
  subst l11 y11 z11
  obtain ⟨rfl, N11q, e11⟩ := hQ11
  have N11 := Fr.app N10 N11q
  obtain ⟨cq12, kq12, q12a, q12b, q12c⟩ := isOf hZ e11 E_b7
  obtain ⟨_, _, ⟨T12, L12, k12, n12⟩, -, X12, ⟨Lc12, hQ12, l12, y12, z12⟩, st12⟩ := X11.virtualBack hx (y := (⟨"com/example/modelspan/modelspan/uml/UmlMultiplicity", "hashCode", "()I"⟩ : MethodName)) (z := (⟨"com/example/modelspan/modelspan/uml/UmlMultiplicity", "hashCode", "()I"⟩ : MethodName)) hown (mvT hZ (hw _ (List.mem_of_getElem? (i := 18) rfl))) (mvT hZ (hw _ (List.mem_of_getElem? (i := 19) rfl))) (notFace_of_selects (args := #[]) (mvT hZ (hw _ (List.mem_of_getElem? (i := 21) rfl)))) (mvT hZ (hw _ (List.mem_of_getElem? (i := 21) rfl))) (mvT hZ (hw _ (List.mem_of_getElem? (i := 20) rfl))) (by decide) (backOf (W := 0) (rm4 l Z a0 hw [] b7 p3 p2 T8.heap n0 Z8 F_lower_b7 F_upper_b7) hZ (hw _ (List.mem_of_getElem? (i := 22) rfl)) (hw _ (List.mem_of_getElem? (i := 2) rfl)) (by decide) (by decide)) q12a q12c (g := (mkF m 67 #[.val (.int p1), .val (.int p2), .val (.int p3), .val (.int p4), .val (.ref b1), .val (.ref b3), .val (.ref b5), .val (.ref b7), .val (.int (((31 : Int32) * p1) + p2)), .val (.int (((31 : Int32) * p1) + p2)), .val (.int (((31 : Int32) * p1) + p4)), .unset] [(.ref b7)])) rfl (by rw [hml]; rfl) (Steps.refl _) (argsL := []) (rest := []) (lenOf own_pd2 rfl) rfl (by show 2 * 0 + _ ≤ _; exact Nat.le_of_eq rfl) (hb hby at_67) (fun _ _ => ⟨rfl, e11, (by decide : 4 + 0 ≤ _), (by decide : 8 + 0 ≤ _)⟩)
  dsimp only [Pt.U, Pt.locs, Pt.cells, Pt.slots] at X12 l12 y12 z12 st12 hQ12
  subst l12 y12 z12
  obtain ⟨rfl, N12q, e12⟩ := hQ12
  have N12 := Fr.app N11 N12q
  have pre13 : ∀ t, Steps p.tables e below (T12.setTop (mkF m 83 #[.val (.int p1), .val (.int p2), .val (.int p3), .val (.int p4), .val (.ref b1), .val (.ref b3), .val (.ref b5), .val (.ref b7), .val (.int (((31 : Int32) * p1) + p2)), .val (.int (((31 : Int32) * p1) + p2)), .val (.int (((31 : Int32) * p1) + p4)), .val (.int (((31 : Int32) * p3) + p2))] [(.int p4), (.int p2)])) t → Steps p.tables e below (s₁.setTop (entryFrame m #[(.int p1), (.int p2), (.int p3), (.int p4)] maxLocals)) t := by
    intro t k
    refine pre0 _ ?_
    show Steps p.tables e below (s₁.setTop (mkF m 0 #[.val (.int p1), .val (.int p2), .val (.int p3), .val (.int p4), .unset, .unset, .unset, .unset, .unset, .unset, .unset, .unset] [])) _
    refine st1 _ ?_
    show Steps p.tables e below (T1.setTop (mkF m 3 #[.val (.int p1), .val (.int p2), .val (.int p3), .val (.int p4), .unset, .unset, .unset, .unset, .unset, .unset, .unset, .unset] [(.ref b1)])) _
    refine XS.dup X1.here hx rfl (hb hby at_3) rfl rfl ?_
    show Steps p.tables e below (T1.setTop (mkF m 4 #[.val (.int p1), .val (.int p2), .val (.int p3), .val (.int p4), .unset, .unset, .unset, .unset, .unset, .unset, .unset, .unset] [(.ref b1), (.ref b1)])) _
    refine XS.iloadN X1.here hx rfl (hb hby at_4) rfl ?_
    show Steps p.tables e below (T1.setTop (mkF m 5 #[.val (.int p1), .val (.int p2), .val (.int p3), .val (.int p4), .unset, .unset, .unset, .unset, .unset, .unset, .unset, .unset] [(.int p1), (.ref b1), (.ref b1)])) _
    refine XS.iloadN X1.here hx rfl (hb hby at_5) rfl ?_
    show Steps p.tables e below (T1.setTop (mkF m 6 #[.val (.int p1), .val (.int p2), .val (.int p3), .val (.int p4), .unset, .unset, .unset, .unset, .unset, .unset, .unset, .unset] [(.int p2), (.int p1), (.ref b1), (.ref b1)])) _
    refine st2.trans ?_
    show Steps p.tables e below (T2.setTop (mkF m 9 #[.val (.int p1), .val (.int p2), .val (.int p3), .val (.int p4), .unset, .unset, .unset, .unset, .unset, .unset, .unset, .unset] [(.ref b1)])) _
    refine XS.astore X2.here hx rfl (hb hby at_9) rfl rfl (l' := #[.val (.int p1), .val (.int p2), .val (.int p3), .val (.int p4), .val (.ref b1), .unset, .unset, .unset, .unset, .unset, .unset, .unset]) rfl ?_
    show Steps p.tables e below (T2.setTop (mkF m 11 #[.val (.int p1), .val (.int p2), .val (.int p3), .val (.int p4), .val (.ref b1), .unset, .unset, .unset, .unset, .unset, .unset, .unset] [])) _
    refine st3 _ ?_
    show Steps p.tables e below (T3.setTop (mkF m 14 #[.val (.int p1), .val (.int p2), .val (.int p3), .val (.int p4), .val (.ref b1), .unset, .unset, .unset, .unset, .unset, .unset, .unset] [(.ref b3)])) _
    refine XS.dup X3.here hx rfl (hb hby at_14) rfl rfl ?_
    show Steps p.tables e below (T3.setTop (mkF m 15 #[.val (.int p1), .val (.int p2), .val (.int p3), .val (.int p4), .val (.ref b1), .unset, .unset, .unset, .unset, .unset, .unset, .unset] [(.ref b3), (.ref b3)])) _
    refine XS.iloadN X3.here hx rfl (hb hby at_15) rfl ?_
    show Steps p.tables e below (T3.setTop (mkF m 16 #[.val (.int p1), .val (.int p2), .val (.int p3), .val (.int p4), .val (.ref b1), .unset, .unset, .unset, .unset, .unset, .unset, .unset] [(.int p1), (.ref b3), (.ref b3)])) _
    refine XS.iloadN X3.here hx rfl (hb hby at_16) rfl ?_
    show Steps p.tables e below (T3.setTop (mkF m 17 #[.val (.int p1), .val (.int p2), .val (.int p3), .val (.int p4), .val (.ref b1), .unset, .unset, .unset, .unset, .unset, .unset, .unset] [(.int p2), (.int p1), (.ref b3), (.ref b3)])) _
    refine st4.trans ?_
    show Steps p.tables e below (T4.setTop (mkF m 20 #[.val (.int p1), .val (.int p2), .val (.int p3), .val (.int p4), .val (.ref b1), .unset, .unset, .unset, .unset, .unset, .unset, .unset] [(.ref b3)])) _
    refine XS.astore X4.here hx rfl (hb hby at_20) rfl rfl (l' := #[.val (.int p1), .val (.int p2), .val (.int p3), .val (.int p4), .val (.ref b1), .val (.ref b3), .unset, .unset, .unset, .unset, .unset, .unset]) rfl ?_
    show Steps p.tables e below (T4.setTop (mkF m 22 #[.val (.int p1), .val (.int p2), .val (.int p3), .val (.int p4), .val (.ref b1), .val (.ref b3), .unset, .unset, .unset, .unset, .unset, .unset] [])) _
    refine st5 _ ?_
    show Steps p.tables e below (T5.setTop (mkF m 25 #[.val (.int p1), .val (.int p2), .val (.int p3), .val (.int p4), .val (.ref b1), .val (.ref b3), .unset, .unset, .unset, .unset, .unset, .unset] [(.ref b5)])) _
    refine XS.dup X5.here hx rfl (hb hby at_25) rfl rfl ?_
    show Steps p.tables e below (T5.setTop (mkF m 26 #[.val (.int p1), .val (.int p2), .val (.int p3), .val (.int p4), .val (.ref b1), .val (.ref b3), .unset, .unset, .unset, .unset, .unset, .unset] [(.ref b5), (.ref b5)])) _
    refine XS.iloadN X5.here hx rfl (hb hby at_26) rfl ?_
    show Steps p.tables e below (T5.setTop (mkF m 27 #[.val (.int p1), .val (.int p2), .val (.int p3), .val (.int p4), .val (.ref b1), .val (.ref b3), .unset, .unset, .unset, .unset, .unset, .unset] [(.int p1), (.ref b5), (.ref b5)])) _
    refine XS.iloadN X5.here hx rfl (hb hby at_27) rfl ?_
    show Steps p.tables e below (T5.setTop (mkF m 28 #[.val (.int p1), .val (.int p2), .val (.int p3), .val (.int p4), .val (.ref b1), .val (.ref b3), .unset, .unset, .unset, .unset, .unset, .unset] [(.int p4), (.int p1), (.ref b5), (.ref b5)])) _
    refine st6.trans ?_
    show Steps p.tables e below (T6.setTop (mkF m 31 #[.val (.int p1), .val (.int p2), .val (.int p3), .val (.int p4), .val (.ref b1), .val (.ref b3), .unset, .unset, .unset, .unset, .unset, .unset] [(.ref b5)])) _
    refine XS.astore X6.here hx rfl (hb hby at_31) rfl rfl (l' := #[.val (.int p1), .val (.int p2), .val (.int p3), .val (.int p4), .val (.ref b1), .val (.ref b3), .val (.ref b5), .unset, .unset, .unset, .unset, .unset]) rfl ?_
    show Steps p.tables e below (T6.setTop (mkF m 33 #[.val (.int p1), .val (.int p2), .val (.int p3), .val (.int p4), .val (.ref b1), .val (.ref b3), .val (.ref b5), .unset, .unset, .unset, .unset, .unset] [])) _
    refine st7 _ ?_
    show Steps p.tables e below (T7.setTop (mkF m 36 #[.val (.int p1), .val (.int p2), .val (.int p3), .val (.int p4), .val (.ref b1), .val (.ref b3), .val (.ref b5), .unset, .unset, .unset, .unset, .unset] [(.ref b7)])) _
    refine XS.dup X7.here hx rfl (hb hby at_36) rfl rfl ?_
    show Steps p.tables e below (T7.setTop (mkF m 37 #[.val (.int p1), .val (.int p2), .val (.int p3), .val (.int p4), .val (.ref b1), .val (.ref b3), .val (.ref b5), .unset, .unset, .unset, .unset, .unset] [(.ref b7), (.ref b7)])) _
    refine XS.iloadN X7.here hx rfl (hb hby at_37) rfl ?_
    show Steps p.tables e below (T7.setTop (mkF m 38 #[.val (.int p1), .val (.int p2), .val (.int p3), .val (.int p4), .val (.ref b1), .val (.ref b3), .val (.ref b5), .unset, .unset, .unset, .unset, .unset] [(.int p3), (.ref b7), (.ref b7)])) _
    refine XS.iloadN X7.here hx rfl (hb hby at_38) rfl ?_
    show Steps p.tables e below (T7.setTop (mkF m 39 #[.val (.int p1), .val (.int p2), .val (.int p3), .val (.int p4), .val (.ref b1), .val (.ref b3), .val (.ref b5), .unset, .unset, .unset, .unset, .unset] [(.int p2), (.int p3), (.ref b7), (.ref b7)])) _
    refine st8.trans ?_
    show Steps p.tables e below (T8.setTop (mkF m 42 #[.val (.int p1), .val (.int p2), .val (.int p3), .val (.int p4), .val (.ref b1), .val (.ref b3), .val (.ref b5), .unset, .unset, .unset, .unset, .unset] [(.ref b7)])) _
    refine XS.astore X8.here hx rfl (hb hby at_42) rfl rfl (l' := #[.val (.int p1), .val (.int p2), .val (.int p3), .val (.int p4), .val (.ref b1), .val (.ref b3), .val (.ref b5), .val (.ref b7), .unset, .unset, .unset, .unset]) rfl ?_
    show Steps p.tables e below (T8.setTop (mkF m 44 #[.val (.int p1), .val (.int p2), .val (.int p3), .val (.int p4), .val (.ref b1), .val (.ref b3), .val (.ref b5), .val (.ref b7), .unset, .unset, .unset, .unset] [])) _
    refine XS.aload X8.here hx rfl (hb hby at_44) rfl rfl ?_
    show Steps p.tables e below (T8.setTop (mkF m 46 #[.val (.int p1), .val (.int p2), .val (.int p3), .val (.int p4), .val (.ref b1), .val (.ref b3), .val (.ref b5), .val (.ref b7), .unset, .unset, .unset, .unset] [(.ref b1)])) _
    refine st9.trans ?_
    show Steps p.tables e below (T9.setTop (mkF m 49 #[.val (.int p1), .val (.int p2), .val (.int p3), .val (.int p4), .val (.ref b1), .val (.ref b3), .val (.ref b5), .val (.ref b7), .unset, .unset, .unset, .unset] [(.int (((31 : Int32) * p1) + p2))])) _
    refine XS.istore X9.here hx rfl (hb hby at_49) rfl (l' := #[.val (.int p1), .val (.int p2), .val (.int p3), .val (.int p4), .val (.ref b1), .val (.ref b3), .val (.ref b5), .val (.ref b7), .val (.int (((31 : Int32) * p1) + p2)), .unset, .unset, .unset]) rfl ?_
    show Steps p.tables e below (T9.setTop (mkF m 51 #[.val (.int p1), .val (.int p2), .val (.int p3), .val (.int p4), .val (.ref b1), .val (.ref b3), .val (.ref b5), .val (.ref b7), .val (.int (((31 : Int32) * p1) + p2)), .unset, .unset, .unset] [])) _
    refine XS.aload X9.here hx rfl (hb hby at_51) rfl rfl ?_
    show Steps p.tables e below (T9.setTop (mkF m 53 #[.val (.int p1), .val (.int p2), .val (.int p3), .val (.int p4), .val (.ref b1), .val (.ref b3), .val (.ref b5), .val (.ref b7), .val (.int (((31 : Int32) * p1) + p2)), .unset, .unset, .unset] [(.ref b3)])) _
    refine st10.trans ?_
    show Steps p.tables e below (T10.setTop (mkF m 56 #[.val (.int p1), .val (.int p2), .val (.int p3), .val (.int p4), .val (.ref b1), .val (.ref b3), .val (.ref b5), .val (.ref b7), .val (.int (((31 : Int32) * p1) + p2)), .unset, .unset, .unset] [(.int (((31 : Int32) * p1) + p2))])) _
    refine XS.istore X10.here hx rfl (hb hby at_56) rfl (l' := #[.val (.int p1), .val (.int p2), .val (.int p3), .val (.int p4), .val (.ref b1), .val (.ref b3), .val (.ref b5), .val (.ref b7), .val (.int (((31 : Int32) * p1) + p2)), .val (.int (((31 : Int32) * p1) + p2)), .unset, .unset]) rfl ?_
    show Steps p.tables e below (T10.setTop (mkF m 58 #[.val (.int p1), .val (.int p2), .val (.int p3), .val (.int p4), .val (.ref b1), .val (.ref b3), .val (.ref b5), .val (.ref b7), .val (.int (((31 : Int32) * p1) + p2)), .val (.int (((31 : Int32) * p1) + p2)), .unset, .unset] [])) _
    refine XS.aload X10.here hx rfl (hb hby at_58) rfl rfl ?_
    show Steps p.tables e below (T10.setTop (mkF m 60 #[.val (.int p1), .val (.int p2), .val (.int p3), .val (.int p4), .val (.ref b1), .val (.ref b3), .val (.ref b5), .val (.ref b7), .val (.int (((31 : Int32) * p1) + p2)), .val (.int (((31 : Int32) * p1) + p2)), .unset, .unset] [(.ref b5)])) _
    refine st11.trans ?_
    show Steps p.tables e below (T11.setTop (mkF m 63 #[.val (.int p1), .val (.int p2), .val (.int p3), .val (.int p4), .val (.ref b1), .val (.ref b3), .val (.ref b5), .val (.ref b7), .val (.int (((31 : Int32) * p1) + p2)), .val (.int (((31 : Int32) * p1) + p2)), .unset, .unset] [(.int (((31 : Int32) * p1) + p4))])) _
    refine XS.istore X11.here hx rfl (hb hby at_63) rfl (l' := #[.val (.int p1), .val (.int p2), .val (.int p3), .val (.int p4), .val (.ref b1), .val (.ref b3), .val (.ref b5), .val (.ref b7), .val (.int (((31 : Int32) * p1) + p2)), .val (.int (((31 : Int32) * p1) + p2)), .val (.int (((31 : Int32) * p1) + p4)), .unset]) rfl ?_
    show Steps p.tables e below (T11.setTop (mkF m 65 #[.val (.int p1), .val (.int p2), .val (.int p3), .val (.int p4), .val (.ref b1), .val (.ref b3), .val (.ref b5), .val (.ref b7), .val (.int (((31 : Int32) * p1) + p2)), .val (.int (((31 : Int32) * p1) + p2)), .val (.int (((31 : Int32) * p1) + p4)), .unset] [])) _
    refine XS.aload X11.here hx rfl (hb hby at_65) rfl rfl ?_
    show Steps p.tables e below (T11.setTop (mkF m 67 #[.val (.int p1), .val (.int p2), .val (.int p3), .val (.int p4), .val (.ref b1), .val (.ref b3), .val (.ref b5), .val (.ref b7), .val (.int (((31 : Int32) * p1) + p2)), .val (.int (((31 : Int32) * p1) + p2)), .val (.int (((31 : Int32) * p1) + p4)), .unset] [(.ref b7)])) _
    refine st12.trans ?_
    show Steps p.tables e below (T12.setTop (mkF m 70 #[.val (.int p1), .val (.int p2), .val (.int p3), .val (.int p4), .val (.ref b1), .val (.ref b3), .val (.ref b5), .val (.ref b7), .val (.int (((31 : Int32) * p1) + p2)), .val (.int (((31 : Int32) * p1) + p2)), .val (.int (((31 : Int32) * p1) + p4)), .unset] [(.int (((31 : Int32) * p3) + p2))])) _
    refine XS.istore X12.here hx rfl (hb hby at_70) rfl (l' := #[.val (.int p1), .val (.int p2), .val (.int p3), .val (.int p4), .val (.ref b1), .val (.ref b3), .val (.ref b5), .val (.ref b7), .val (.int (((31 : Int32) * p1) + p2)), .val (.int (((31 : Int32) * p1) + p2)), .val (.int (((31 : Int32) * p1) + p4)), .val (.int (((31 : Int32) * p3) + p2))]) rfl ?_
    show Steps p.tables e below (T12.setTop (mkF m 72 #[.val (.int p1), .val (.int p2), .val (.int p3), .val (.int p4), .val (.ref b1), .val (.ref b3), .val (.ref b5), .val (.ref b7), .val (.int (((31 : Int32) * p1) + p2)), .val (.int (((31 : Int32) * p1) + p2)), .val (.int (((31 : Int32) * p1) + p4)), .val (.int (((31 : Int32) * p3) + p2))] [])) _
    refine XS.iload X12.here hx rfl (hb hby at_72) rfl ?_
    show Steps p.tables e below (T12.setTop (mkF m 74 #[.val (.int p1), .val (.int p2), .val (.int p3), .val (.int p4), .val (.ref b1), .val (.ref b3), .val (.ref b5), .val (.ref b7), .val (.int (((31 : Int32) * p1) + p2)), .val (.int (((31 : Int32) * p1) + p2)), .val (.int (((31 : Int32) * p1) + p4)), .val (.int (((31 : Int32) * p3) + p2))] [(.int (((31 : Int32) * p1) + p2))])) _
    refine XS.iload X12.here hx rfl (hb hby at_74) rfl ?_
    show Steps p.tables e below (T12.setTop (mkF m 76 #[.val (.int p1), .val (.int p2), .val (.int p3), .val (.int p4), .val (.ref b1), .val (.ref b3), .val (.ref b5), .val (.ref b7), .val (.int (((31 : Int32) * p1) + p2)), .val (.int (((31 : Int32) * p1) + p2)), .val (.int (((31 : Int32) * p1) + p4)), .val (.int (((31 : Int32) * p3) + p2))] [(.int (((31 : Int32) * p1) + p2)), (.int (((31 : Int32) * p1) + p2))])) _
    refine XS.icmpYes X12.here hx rfl (pc0 := 76) (pc' := 81) rfl (hb hby at_76) rfl (teq (rfl : (((31 : Int32) * p1) + p2) = (((31 : Int32) * p1) + p2))).1 (by decide) (by decide) ?_
    show Steps p.tables e below (T12.setTop (mkF m 81 #[.val (.int p1), .val (.int p2), .val (.int p3), .val (.int p4), .val (.ref b1), .val (.ref b3), .val (.ref b5), .val (.ref b7), .val (.int (((31 : Int32) * p1) + p2)), .val (.int (((31 : Int32) * p1) + p2)), .val (.int (((31 : Int32) * p1) + p4)), .val (.int (((31 : Int32) * p3) + p2))] [])) _
    refine XS.iloadN X12.here hx rfl (hb hby at_81) rfl ?_
    show Steps p.tables e below (T12.setTop (mkF m 82 #[.val (.int p1), .val (.int p2), .val (.int p3), .val (.int p4), .val (.ref b1), .val (.ref b3), .val (.ref b5), .val (.ref b7), .val (.int (((31 : Int32) * p1) + p2)), .val (.int (((31 : Int32) * p1) + p2)), .val (.int (((31 : Int32) * p1) + p4)), .val (.int (((31 : Int32) * p3) + p2))] [(.int p2)])) _
    refine XS.iloadN X12.here hx rfl (hb hby at_82) rfl ?_
    exact k
  by_cases hc83 : p2 = p4
  · -- hc83 
    have pre14 : ∀ t, Steps p.tables e below (T12.setTop (mkF m 111 #[.val (.int p1), .val (.int p2), .val (.int p3), .val (.int p4), .val (.ref b1), .val (.ref b3), .val (.ref b5), .val (.ref b7), .val (.int (((31 : Int32) * p1) + p2)), .val (.int (((31 : Int32) * p1) + p2)), .val (.int (((31 : Int32) * p1) + p4)), .val (.int (((31 : Int32) * p3) + p2))] [(.int p3), (.int p1)])) t → Steps p.tables e below (s₁.setTop (entryFrame m #[(.int p1), (.int p2), (.int p3), (.int p4)] maxLocals)) t := by
      intro t k
      refine pre13 _ ?_
      show Steps p.tables e below (T12.setTop (mkF m 83 #[.val (.int p1), .val (.int p2), .val (.int p3), .val (.int p4), .val (.ref b1), .val (.ref b3), .val (.ref b5), .val (.ref b7), .val (.int (((31 : Int32) * p1) + p2)), .val (.int (((31 : Int32) * p1) + p2)), .val (.int (((31 : Int32) * p1) + p4)), .val (.int (((31 : Int32) * p3) + p2))] [(.int p4), (.int p2)])) _
      refine XS.icmpYes X12.here hx rfl (pc0 := 83) (pc' := 95) rfl (hb hby at_83) rfl (teq hc83).1 (by decide) (by decide) ?_
      show Steps p.tables e below (T12.setTop (mkF m 95 #[.val (.int p1), .val (.int p2), .val (.int p3), .val (.int p4), .val (.ref b1), .val (.ref b3), .val (.ref b5), .val (.ref b7), .val (.int (((31 : Int32) * p1) + p2)), .val (.int (((31 : Int32) * p1) + p2)), .val (.int (((31 : Int32) * p1) + p4)), .val (.int (((31 : Int32) * p3) + p2))] [])) _
      refine XS.iloadN X12.here hx rfl (hb hby at_95) rfl ?_
      show Steps p.tables e below (T12.setTop (mkF m 96 #[.val (.int p1), .val (.int p2), .val (.int p3), .val (.int p4), .val (.ref b1), .val (.ref b3), .val (.ref b5), .val (.ref b7), .val (.int (((31 : Int32) * p1) + p2)), .val (.int (((31 : Int32) * p1) + p2)), .val (.int (((31 : Int32) * p1) + p4)), .val (.int (((31 : Int32) * p3) + p2))] [(.int p2)])) _
      refine XS.iloadN X12.here hx rfl (hb hby at_96) rfl ?_
      show Steps p.tables e below (T12.setTop (mkF m 97 #[.val (.int p1), .val (.int p2), .val (.int p3), .val (.int p4), .val (.ref b1), .val (.ref b3), .val (.ref b5), .val (.ref b7), .val (.int (((31 : Int32) * p1) + p2)), .val (.int (((31 : Int32) * p1) + p2)), .val (.int (((31 : Int32) * p1) + p4)), .val (.int (((31 : Int32) * p3) + p2))] [(.int p4), (.int p2)])) _
      refine XS.icmpNo X12.here hx rfl (hb hby at_97) rfl (teq hc83).2 ?_
      show Steps p.tables e below (T12.setTop (mkF m 100 #[.val (.int p1), .val (.int p2), .val (.int p3), .val (.int p4), .val (.ref b1), .val (.ref b3), .val (.ref b5), .val (.ref b7), .val (.int (((31 : Int32) * p1) + p2)), .val (.int (((31 : Int32) * p1) + p2)), .val (.int (((31 : Int32) * p1) + p4)), .val (.int (((31 : Int32) * p3) + p2))] [])) _
      refine XS.iload X12.here hx rfl (hb hby at_100) rfl ?_
      show Steps p.tables e below (T12.setTop (mkF m 102 #[.val (.int p1), .val (.int p2), .val (.int p3), .val (.int p4), .val (.ref b1), .val (.ref b3), .val (.ref b5), .val (.ref b7), .val (.int (((31 : Int32) * p1) + p2)), .val (.int (((31 : Int32) * p1) + p2)), .val (.int (((31 : Int32) * p1) + p4)), .val (.int (((31 : Int32) * p3) + p2))] [(.int (((31 : Int32) * p1) + p2))])) _
      refine XS.iload X12.here hx rfl (hb hby at_102) rfl ?_
      show Steps p.tables e below (T12.setTop (mkF m 104 #[.val (.int p1), .val (.int p2), .val (.int p3), .val (.int p4), .val (.ref b1), .val (.ref b3), .val (.ref b5), .val (.ref b7), .val (.int (((31 : Int32) * p1) + p2)), .val (.int (((31 : Int32) * p1) + p2)), .val (.int (((31 : Int32) * p1) + p4)), .val (.int (((31 : Int32) * p3) + p2))] [(.int (((31 : Int32) * p1) + p4)), (.int (((31 : Int32) * p1) + p2))])) _
      refine XS.icmpYes X12.here hx rfl (pc0 := 104) (pc' := 109) rfl (hb hby at_104) rfl (teq (by rw [hc83] : (((31 : Int32) * p1) + p2) = (((31 : Int32) * p1) + p4))).1 (by decide) (by decide) ?_
      show Steps p.tables e below (T12.setTop (mkF m 109 #[.val (.int p1), .val (.int p2), .val (.int p3), .val (.int p4), .val (.ref b1), .val (.ref b3), .val (.ref b5), .val (.ref b7), .val (.int (((31 : Int32) * p1) + p2)), .val (.int (((31 : Int32) * p1) + p2)), .val (.int (((31 : Int32) * p1) + p4)), .val (.int (((31 : Int32) * p3) + p2))] [])) _
      refine XS.iloadN X12.here hx rfl (hb hby at_109) rfl ?_
      show Steps p.tables e below (T12.setTop (mkF m 110 #[.val (.int p1), .val (.int p2), .val (.int p3), .val (.int p4), .val (.ref b1), .val (.ref b3), .val (.ref b5), .val (.ref b7), .val (.int (((31 : Int32) * p1) + p2)), .val (.int (((31 : Int32) * p1) + p2)), .val (.int (((31 : Int32) * p1) + p4)), .val (.int (((31 : Int32) * p3) + p2))] [(.int p1)])) _
      refine XS.iloadN X12.here hx rfl (hb hby at_110) rfl ?_
      exact k
    by_cases hc111 : p1 = p3
    · -- hc111 
      have pre15 : ∀ t, Steps p.tables e below (T12.setTop (mkF m 138 #[.val (.int p1), .val (.int p2), .val (.int p3), .val (.int p4), .val (.ref b1), .val (.ref b3), .val (.ref b5), .val (.ref b7), .val (.int (((31 : Int32) * p1) + p2)), .val (.int (((31 : Int32) * p1) + p2)), .val (.int (((31 : Int32) * p1) + p4)), .val (.int (((31 : Int32) * p3) + p2))] [(.int (1 : Int32))])) t → Steps p.tables e below (s₁.setTop (entryFrame m #[(.int p1), (.int p2), (.int p3), (.int p4)] maxLocals)) t := by
        intro t k
        refine pre14 _ ?_
        show Steps p.tables e below (T12.setTop (mkF m 111 #[.val (.int p1), .val (.int p2), .val (.int p3), .val (.int p4), .val (.ref b1), .val (.ref b3), .val (.ref b5), .val (.ref b7), .val (.int (((31 : Int32) * p1) + p2)), .val (.int (((31 : Int32) * p1) + p2)), .val (.int (((31 : Int32) * p1) + p4)), .val (.int (((31 : Int32) * p3) + p2))] [(.int p3), (.int p1)])) _
        refine XS.icmpYes X12.here hx rfl (pc0 := 111) (pc' := 123) rfl (hb hby at_111) rfl (teq hc111).1 (by decide) (by decide) ?_
        show Steps p.tables e below (T12.setTop (mkF m 123 #[.val (.int p1), .val (.int p2), .val (.int p3), .val (.int p4), .val (.ref b1), .val (.ref b3), .val (.ref b5), .val (.ref b7), .val (.int (((31 : Int32) * p1) + p2)), .val (.int (((31 : Int32) * p1) + p2)), .val (.int (((31 : Int32) * p1) + p4)), .val (.int (((31 : Int32) * p3) + p2))] [])) _
        refine XS.iloadN X12.here hx rfl (hb hby at_123) rfl ?_
        show Steps p.tables e below (T12.setTop (mkF m 124 #[.val (.int p1), .val (.int p2), .val (.int p3), .val (.int p4), .val (.ref b1), .val (.ref b3), .val (.ref b5), .val (.ref b7), .val (.int (((31 : Int32) * p1) + p2)), .val (.int (((31 : Int32) * p1) + p2)), .val (.int (((31 : Int32) * p1) + p4)), .val (.int (((31 : Int32) * p3) + p2))] [(.int p1)])) _
        refine XS.iloadN X12.here hx rfl (hb hby at_124) rfl ?_
        show Steps p.tables e below (T12.setTop (mkF m 125 #[.val (.int p1), .val (.int p2), .val (.int p3), .val (.int p4), .val (.ref b1), .val (.ref b3), .val (.ref b5), .val (.ref b7), .val (.int (((31 : Int32) * p1) + p2)), .val (.int (((31 : Int32) * p1) + p2)), .val (.int (((31 : Int32) * p1) + p4)), .val (.int (((31 : Int32) * p3) + p2))] [(.int p3), (.int p1)])) _
        refine XS.icmpNo X12.here hx rfl (hb hby at_125) rfl (teq hc111).2 ?_
        show Steps p.tables e below (T12.setTop (mkF m 128 #[.val (.int p1), .val (.int p2), .val (.int p3), .val (.int p4), .val (.ref b1), .val (.ref b3), .val (.ref b5), .val (.ref b7), .val (.int (((31 : Int32) * p1) + p2)), .val (.int (((31 : Int32) * p1) + p2)), .val (.int (((31 : Int32) * p1) + p4)), .val (.int (((31 : Int32) * p3) + p2))] [])) _
        refine XS.iload X12.here hx rfl (hb hby at_128) rfl ?_
        show Steps p.tables e below (T12.setTop (mkF m 130 #[.val (.int p1), .val (.int p2), .val (.int p3), .val (.int p4), .val (.ref b1), .val (.ref b3), .val (.ref b5), .val (.ref b7), .val (.int (((31 : Int32) * p1) + p2)), .val (.int (((31 : Int32) * p1) + p2)), .val (.int (((31 : Int32) * p1) + p4)), .val (.int (((31 : Int32) * p3) + p2))] [(.int (((31 : Int32) * p1) + p2))])) _
        refine XS.iload X12.here hx rfl (hb hby at_130) rfl ?_
        show Steps p.tables e below (T12.setTop (mkF m 132 #[.val (.int p1), .val (.int p2), .val (.int p3), .val (.int p4), .val (.ref b1), .val (.ref b3), .val (.ref b5), .val (.ref b7), .val (.int (((31 : Int32) * p1) + p2)), .val (.int (((31 : Int32) * p1) + p2)), .val (.int (((31 : Int32) * p1) + p4)), .val (.int (((31 : Int32) * p3) + p2))] [(.int (((31 : Int32) * p3) + p2)), (.int (((31 : Int32) * p1) + p2))])) _
        refine XS.icmpYes X12.here hx rfl (pc0 := 132) (pc' := 137) rfl (hb hby at_132) rfl (teq (by rw [hc111] : (((31 : Int32) * p1) + p2) = (((31 : Int32) * p3) + p2))).1 (by decide) (by decide) ?_
        show Steps p.tables e below (T12.setTop (mkF m 137 #[.val (.int p1), .val (.int p2), .val (.int p3), .val (.int p4), .val (.ref b1), .val (.ref b3), .val (.ref b5), .val (.ref b7), .val (.int (((31 : Int32) * p1) + p2)), .val (.int (((31 : Int32) * p1) + p2)), .val (.int (((31 : Int32) * p1) + p4)), .val (.int (((31 : Int32) * p3) + p2))] [])) _
        refine XS.iconst X12.here hx rfl (hb hby at_137) ?_
        exact k
      obtain ⟨fs, hr, hrun, hended, hW, hsame⟩ := X12.leave (v := some (.int (1 : Int32))) (fun h => by rw [Bd.returns] at h; cases h)
      refine ⟨_, _, pre15 _ ?_, hrun, hended, _, _, rfl, ?_, ⟨_, rfl⟩, hW, hsame.mono (by decide) (by decide)⟩
      · show Steps p.tables e below (T12.setTop (mkF m 138 #[.val (.int p1), .val (.int p2), .val (.int p3), .val (.int p4), .val (.ref b1), .val (.ref b3), .val (.ref b5), .val (.ref b7), .val (.int (((31 : Int32) * p1) + p2)), .val (.int (((31 : Int32) * p1) + p2)), .val (.int (((31 : Int32) * p1) + p4)), .val (.int (((31 : Int32) * p3) + p2))] [(.int (1 : Int32))])) _
        exact retN X12 hx (t := .boolean) Bd.returns (by simp) (hb hby at_138) hr
      · show own_Q0 Z p1 p2 p3 p4 h0 n0 _ T12.heap _
        rw [e12]
        exact ⟨rfl, N12⟩
    · -- hc111 not
      have pre16 : ∀ t, Steps p.tables e below (T12.setTop (mkF m 138 #[.val (.int p1), .val (.int p2), .val (.int p3), .val (.int p4), .val (.ref b1), .val (.ref b3), .val (.ref b5), .val (.ref b7), .val (.int (((31 : Int32) * p1) + p2)), .val (.int (((31 : Int32) * p1) + p2)), .val (.int (((31 : Int32) * p1) + p4)), .val (.int (((31 : Int32) * p3) + p2))] [(.int (1 : Int32))])) t → Steps p.tables e below (s₁.setTop (entryFrame m #[(.int p1), (.int p2), (.int p3), (.int p4)] maxLocals)) t := by
        intro t k
        refine pre14 _ ?_
        show Steps p.tables e below (T12.setTop (mkF m 111 #[.val (.int p1), .val (.int p2), .val (.int p3), .val (.int p4), .val (.ref b1), .val (.ref b3), .val (.ref b5), .val (.ref b7), .val (.int (((31 : Int32) * p1) + p2)), .val (.int (((31 : Int32) * p1) + p2)), .val (.int (((31 : Int32) * p1) + p4)), .val (.int (((31 : Int32) * p3) + p2))] [(.int p3), (.int p1)])) _
        refine XS.icmpNo X12.here hx rfl (hb hby at_111) rfl (feq hc111).1 ?_
        show Steps p.tables e below (T12.setTop (mkF m 114 #[.val (.int p1), .val (.int p2), .val (.int p3), .val (.int p4), .val (.ref b1), .val (.ref b3), .val (.ref b5), .val (.ref b7), .val (.int (((31 : Int32) * p1) + p2)), .val (.int (((31 : Int32) * p1) + p2)), .val (.int (((31 : Int32) * p1) + p4)), .val (.int (((31 : Int32) * p3) + p2))] [])) _
        refine XS.iload X12.here hx rfl (hb hby at_114) rfl ?_
        show Steps p.tables e below (T12.setTop (mkF m 116 #[.val (.int p1), .val (.int p2), .val (.int p3), .val (.int p4), .val (.ref b1), .val (.ref b3), .val (.ref b5), .val (.ref b7), .val (.int (((31 : Int32) * p1) + p2)), .val (.int (((31 : Int32) * p1) + p2)), .val (.int (((31 : Int32) * p1) + p4)), .val (.int (((31 : Int32) * p3) + p2))] [(.int (((31 : Int32) * p1) + p2))])) _
        refine XS.iload X12.here hx rfl (hb hby at_116) rfl ?_
        show Steps p.tables e below (T12.setTop (mkF m 118 #[.val (.int p1), .val (.int p2), .val (.int p3), .val (.int p4), .val (.ref b1), .val (.ref b3), .val (.ref b5), .val (.ref b7), .val (.int (((31 : Int32) * p1) + p2)), .val (.int (((31 : Int32) * p1) + p2)), .val (.int (((31 : Int32) * p1) + p4)), .val (.int (((31 : Int32) * p3) + p2))] [(.int (((31 : Int32) * p3) + p2)), (.int (((31 : Int32) * p1) + p2))])) _
        refine XS.icmpYes X12.here hx rfl (pc0 := 118) (pc' := 123) rfl (hb hby at_118) rfl (feq (own_ne4 hc111 : ¬ ((((31 : Int32) * p1) + p2) = (((31 : Int32) * p3) + p2)))).2 (by decide) (by decide) ?_
        show Steps p.tables e below (T12.setTop (mkF m 123 #[.val (.int p1), .val (.int p2), .val (.int p3), .val (.int p4), .val (.ref b1), .val (.ref b3), .val (.ref b5), .val (.ref b7), .val (.int (((31 : Int32) * p1) + p2)), .val (.int (((31 : Int32) * p1) + p2)), .val (.int (((31 : Int32) * p1) + p4)), .val (.int (((31 : Int32) * p3) + p2))] [])) _
        refine XS.iloadN X12.here hx rfl (hb hby at_123) rfl ?_
        show Steps p.tables e below (T12.setTop (mkF m 124 #[.val (.int p1), .val (.int p2), .val (.int p3), .val (.int p4), .val (.ref b1), .val (.ref b3), .val (.ref b5), .val (.ref b7), .val (.int (((31 : Int32) * p1) + p2)), .val (.int (((31 : Int32) * p1) + p2)), .val (.int (((31 : Int32) * p1) + p4)), .val (.int (((31 : Int32) * p3) + p2))] [(.int p1)])) _
        refine XS.iloadN X12.here hx rfl (hb hby at_124) rfl ?_
        show Steps p.tables e below (T12.setTop (mkF m 125 #[.val (.int p1), .val (.int p2), .val (.int p3), .val (.int p4), .val (.ref b1), .val (.ref b3), .val (.ref b5), .val (.ref b7), .val (.int (((31 : Int32) * p1) + p2)), .val (.int (((31 : Int32) * p1) + p2)), .val (.int (((31 : Int32) * p1) + p4)), .val (.int (((31 : Int32) * p3) + p2))] [(.int p3), (.int p1)])) _
        refine XS.icmpYes X12.here hx rfl (pc0 := 125) (pc' := 137) rfl (hb hby at_125) rfl (feq hc111).2 (by decide) (by decide) ?_
        show Steps p.tables e below (T12.setTop (mkF m 137 #[.val (.int p1), .val (.int p2), .val (.int p3), .val (.int p4), .val (.ref b1), .val (.ref b3), .val (.ref b5), .val (.ref b7), .val (.int (((31 : Int32) * p1) + p2)), .val (.int (((31 : Int32) * p1) + p2)), .val (.int (((31 : Int32) * p1) + p4)), .val (.int (((31 : Int32) * p3) + p2))] [])) _
        refine XS.iconst X12.here hx rfl (hb hby at_137) ?_
        exact k
      obtain ⟨fs, hr, hrun, hended, hW, hsame⟩ := X12.leave (v := some (.int (1 : Int32))) (fun h => by rw [Bd.returns] at h; cases h)
      refine ⟨_, _, pre16 _ ?_, hrun, hended, _, _, rfl, ?_, ⟨_, rfl⟩, hW, hsame.mono (by decide) (by decide)⟩
      · show Steps p.tables e below (T12.setTop (mkF m 138 #[.val (.int p1), .val (.int p2), .val (.int p3), .val (.int p4), .val (.ref b1), .val (.ref b3), .val (.ref b5), .val (.ref b7), .val (.int (((31 : Int32) * p1) + p2)), .val (.int (((31 : Int32) * p1) + p2)), .val (.int (((31 : Int32) * p1) + p4)), .val (.int (((31 : Int32) * p3) + p2))] [(.int (1 : Int32))])) _
        exact retN X12 hx (t := .boolean) Bd.returns (by simp) (hb hby at_138) hr
      · show own_Q0 Z p1 p2 p3 p4 h0 n0 _ T12.heap _
        rw [e12]
        exact ⟨rfl, N12⟩
  · -- hc83 not
    have pre17 : ∀ t, Steps p.tables e below (T12.setTop (mkF m 111 #[.val (.int p1), .val (.int p2), .val (.int p3), .val (.int p4), .val (.ref b1), .val (.ref b3), .val (.ref b5), .val (.ref b7), .val (.int (((31 : Int32) * p1) + p2)), .val (.int (((31 : Int32) * p1) + p2)), .val (.int (((31 : Int32) * p1) + p4)), .val (.int (((31 : Int32) * p3) + p2))] [(.int p3), (.int p1)])) t → Steps p.tables e below (s₁.setTop (entryFrame m #[(.int p1), (.int p2), (.int p3), (.int p4)] maxLocals)) t := by
      intro t k
      refine pre13 _ ?_
      show Steps p.tables e below (T12.setTop (mkF m 83 #[.val (.int p1), .val (.int p2), .val (.int p3), .val (.int p4), .val (.ref b1), .val (.ref b3), .val (.ref b5), .val (.ref b7), .val (.int (((31 : Int32) * p1) + p2)), .val (.int (((31 : Int32) * p1) + p2)), .val (.int (((31 : Int32) * p1) + p4)), .val (.int (((31 : Int32) * p3) + p2))] [(.int p4), (.int p2)])) _
      refine XS.icmpNo X12.here hx rfl (hb hby at_83) rfl (feq hc83).1 ?_
      show Steps p.tables e below (T12.setTop (mkF m 86 #[.val (.int p1), .val (.int p2), .val (.int p3), .val (.int p4), .val (.ref b1), .val (.ref b3), .val (.ref b5), .val (.ref b7), .val (.int (((31 : Int32) * p1) + p2)), .val (.int (((31 : Int32) * p1) + p2)), .val (.int (((31 : Int32) * p1) + p4)), .val (.int (((31 : Int32) * p3) + p2))] [])) _
      refine XS.iload X12.here hx rfl (hb hby at_86) rfl ?_
      show Steps p.tables e below (T12.setTop (mkF m 88 #[.val (.int p1), .val (.int p2), .val (.int p3), .val (.int p4), .val (.ref b1), .val (.ref b3), .val (.ref b5), .val (.ref b7), .val (.int (((31 : Int32) * p1) + p2)), .val (.int (((31 : Int32) * p1) + p2)), .val (.int (((31 : Int32) * p1) + p4)), .val (.int (((31 : Int32) * p3) + p2))] [(.int (((31 : Int32) * p1) + p2))])) _
      refine XS.iload X12.here hx rfl (hb hby at_88) rfl ?_
      show Steps p.tables e below (T12.setTop (mkF m 90 #[.val (.int p1), .val (.int p2), .val (.int p3), .val (.int p4), .val (.ref b1), .val (.ref b3), .val (.ref b5), .val (.ref b7), .val (.int (((31 : Int32) * p1) + p2)), .val (.int (((31 : Int32) * p1) + p2)), .val (.int (((31 : Int32) * p1) + p4)), .val (.int (((31 : Int32) * p3) + p2))] [(.int (((31 : Int32) * p1) + p4)), (.int (((31 : Int32) * p1) + p2))])) _
      refine XS.icmpYes X12.here hx rfl (pc0 := 90) (pc' := 95) rfl (hb hby at_90) rfl (feq (own_ne3 hc83 : ¬ ((((31 : Int32) * p1) + p2) = (((31 : Int32) * p1) + p4)))).2 (by decide) (by decide) ?_
      show Steps p.tables e below (T12.setTop (mkF m 95 #[.val (.int p1), .val (.int p2), .val (.int p3), .val (.int p4), .val (.ref b1), .val (.ref b3), .val (.ref b5), .val (.ref b7), .val (.int (((31 : Int32) * p1) + p2)), .val (.int (((31 : Int32) * p1) + p2)), .val (.int (((31 : Int32) * p1) + p4)), .val (.int (((31 : Int32) * p3) + p2))] [])) _
      refine XS.iloadN X12.here hx rfl (hb hby at_95) rfl ?_
      show Steps p.tables e below (T12.setTop (mkF m 96 #[.val (.int p1), .val (.int p2), .val (.int p3), .val (.int p4), .val (.ref b1), .val (.ref b3), .val (.ref b5), .val (.ref b7), .val (.int (((31 : Int32) * p1) + p2)), .val (.int (((31 : Int32) * p1) + p2)), .val (.int (((31 : Int32) * p1) + p4)), .val (.int (((31 : Int32) * p3) + p2))] [(.int p2)])) _
      refine XS.iloadN X12.here hx rfl (hb hby at_96) rfl ?_
      show Steps p.tables e below (T12.setTop (mkF m 97 #[.val (.int p1), .val (.int p2), .val (.int p3), .val (.int p4), .val (.ref b1), .val (.ref b3), .val (.ref b5), .val (.ref b7), .val (.int (((31 : Int32) * p1) + p2)), .val (.int (((31 : Int32) * p1) + p2)), .val (.int (((31 : Int32) * p1) + p4)), .val (.int (((31 : Int32) * p3) + p2))] [(.int p4), (.int p2)])) _
      refine XS.icmpYes X12.here hx rfl (pc0 := 97) (pc' := 109) rfl (hb hby at_97) rfl (feq hc83).2 (by decide) (by decide) ?_
      show Steps p.tables e below (T12.setTop (mkF m 109 #[.val (.int p1), .val (.int p2), .val (.int p3), .val (.int p4), .val (.ref b1), .val (.ref b3), .val (.ref b5), .val (.ref b7), .val (.int (((31 : Int32) * p1) + p2)), .val (.int (((31 : Int32) * p1) + p2)), .val (.int (((31 : Int32) * p1) + p4)), .val (.int (((31 : Int32) * p3) + p2))] [])) _
      refine XS.iloadN X12.here hx rfl (hb hby at_109) rfl ?_
      show Steps p.tables e below (T12.setTop (mkF m 110 #[.val (.int p1), .val (.int p2), .val (.int p3), .val (.int p4), .val (.ref b1), .val (.ref b3), .val (.ref b5), .val (.ref b7), .val (.int (((31 : Int32) * p1) + p2)), .val (.int (((31 : Int32) * p1) + p2)), .val (.int (((31 : Int32) * p1) + p4)), .val (.int (((31 : Int32) * p3) + p2))] [(.int p1)])) _
      refine XS.iloadN X12.here hx rfl (hb hby at_110) rfl ?_
      exact k
    by_cases hc111 : p1 = p3
    · -- hc111 
      have pre18 : ∀ t, Steps p.tables e below (T12.setTop (mkF m 138 #[.val (.int p1), .val (.int p2), .val (.int p3), .val (.int p4), .val (.ref b1), .val (.ref b3), .val (.ref b5), .val (.ref b7), .val (.int (((31 : Int32) * p1) + p2)), .val (.int (((31 : Int32) * p1) + p2)), .val (.int (((31 : Int32) * p1) + p4)), .val (.int (((31 : Int32) * p3) + p2))] [(.int (1 : Int32))])) t → Steps p.tables e below (s₁.setTop (entryFrame m #[(.int p1), (.int p2), (.int p3), (.int p4)] maxLocals)) t := by
        intro t k
        refine pre17 _ ?_
        show Steps p.tables e below (T12.setTop (mkF m 111 #[.val (.int p1), .val (.int p2), .val (.int p3), .val (.int p4), .val (.ref b1), .val (.ref b3), .val (.ref b5), .val (.ref b7), .val (.int (((31 : Int32) * p1) + p2)), .val (.int (((31 : Int32) * p1) + p2)), .val (.int (((31 : Int32) * p1) + p4)), .val (.int (((31 : Int32) * p3) + p2))] [(.int p3), (.int p1)])) _
        refine XS.icmpYes X12.here hx rfl (pc0 := 111) (pc' := 123) rfl (hb hby at_111) rfl (teq hc111).1 (by decide) (by decide) ?_
        show Steps p.tables e below (T12.setTop (mkF m 123 #[.val (.int p1), .val (.int p2), .val (.int p3), .val (.int p4), .val (.ref b1), .val (.ref b3), .val (.ref b5), .val (.ref b7), .val (.int (((31 : Int32) * p1) + p2)), .val (.int (((31 : Int32) * p1) + p2)), .val (.int (((31 : Int32) * p1) + p4)), .val (.int (((31 : Int32) * p3) + p2))] [])) _
        refine XS.iloadN X12.here hx rfl (hb hby at_123) rfl ?_
        show Steps p.tables e below (T12.setTop (mkF m 124 #[.val (.int p1), .val (.int p2), .val (.int p3), .val (.int p4), .val (.ref b1), .val (.ref b3), .val (.ref b5), .val (.ref b7), .val (.int (((31 : Int32) * p1) + p2)), .val (.int (((31 : Int32) * p1) + p2)), .val (.int (((31 : Int32) * p1) + p4)), .val (.int (((31 : Int32) * p3) + p2))] [(.int p1)])) _
        refine XS.iloadN X12.here hx rfl (hb hby at_124) rfl ?_
        show Steps p.tables e below (T12.setTop (mkF m 125 #[.val (.int p1), .val (.int p2), .val (.int p3), .val (.int p4), .val (.ref b1), .val (.ref b3), .val (.ref b5), .val (.ref b7), .val (.int (((31 : Int32) * p1) + p2)), .val (.int (((31 : Int32) * p1) + p2)), .val (.int (((31 : Int32) * p1) + p4)), .val (.int (((31 : Int32) * p3) + p2))] [(.int p3), (.int p1)])) _
        refine XS.icmpNo X12.here hx rfl (hb hby at_125) rfl (teq hc111).2 ?_
        show Steps p.tables e below (T12.setTop (mkF m 128 #[.val (.int p1), .val (.int p2), .val (.int p3), .val (.int p4), .val (.ref b1), .val (.ref b3), .val (.ref b5), .val (.ref b7), .val (.int (((31 : Int32) * p1) + p2)), .val (.int (((31 : Int32) * p1) + p2)), .val (.int (((31 : Int32) * p1) + p4)), .val (.int (((31 : Int32) * p3) + p2))] [])) _
        refine XS.iload X12.here hx rfl (hb hby at_128) rfl ?_
        show Steps p.tables e below (T12.setTop (mkF m 130 #[.val (.int p1), .val (.int p2), .val (.int p3), .val (.int p4), .val (.ref b1), .val (.ref b3), .val (.ref b5), .val (.ref b7), .val (.int (((31 : Int32) * p1) + p2)), .val (.int (((31 : Int32) * p1) + p2)), .val (.int (((31 : Int32) * p1) + p4)), .val (.int (((31 : Int32) * p3) + p2))] [(.int (((31 : Int32) * p1) + p2))])) _
        refine XS.iload X12.here hx rfl (hb hby at_130) rfl ?_
        show Steps p.tables e below (T12.setTop (mkF m 132 #[.val (.int p1), .val (.int p2), .val (.int p3), .val (.int p4), .val (.ref b1), .val (.ref b3), .val (.ref b5), .val (.ref b7), .val (.int (((31 : Int32) * p1) + p2)), .val (.int (((31 : Int32) * p1) + p2)), .val (.int (((31 : Int32) * p1) + p4)), .val (.int (((31 : Int32) * p3) + p2))] [(.int (((31 : Int32) * p3) + p2)), (.int (((31 : Int32) * p1) + p2))])) _
        refine XS.icmpYes X12.here hx rfl (pc0 := 132) (pc' := 137) rfl (hb hby at_132) rfl (teq (by rw [hc111] : (((31 : Int32) * p1) + p2) = (((31 : Int32) * p3) + p2))).1 (by decide) (by decide) ?_
        show Steps p.tables e below (T12.setTop (mkF m 137 #[.val (.int p1), .val (.int p2), .val (.int p3), .val (.int p4), .val (.ref b1), .val (.ref b3), .val (.ref b5), .val (.ref b7), .val (.int (((31 : Int32) * p1) + p2)), .val (.int (((31 : Int32) * p1) + p2)), .val (.int (((31 : Int32) * p1) + p4)), .val (.int (((31 : Int32) * p3) + p2))] [])) _
        refine XS.iconst X12.here hx rfl (hb hby at_137) ?_
        exact k
      obtain ⟨fs, hr, hrun, hended, hW, hsame⟩ := X12.leave (v := some (.int (1 : Int32))) (fun h => by rw [Bd.returns] at h; cases h)
      refine ⟨_, _, pre18 _ ?_, hrun, hended, _, _, rfl, ?_, ⟨_, rfl⟩, hW, hsame.mono (by decide) (by decide)⟩
      · show Steps p.tables e below (T12.setTop (mkF m 138 #[.val (.int p1), .val (.int p2), .val (.int p3), .val (.int p4), .val (.ref b1), .val (.ref b3), .val (.ref b5), .val (.ref b7), .val (.int (((31 : Int32) * p1) + p2)), .val (.int (((31 : Int32) * p1) + p2)), .val (.int (((31 : Int32) * p1) + p4)), .val (.int (((31 : Int32) * p3) + p2))] [(.int (1 : Int32))])) _
        exact retN X12 hx (t := .boolean) Bd.returns (by simp) (hb hby at_138) hr
      · show own_Q0 Z p1 p2 p3 p4 h0 n0 _ T12.heap _
        rw [e12]
        exact ⟨rfl, N12⟩
    · -- hc111 not
      have pre19 : ∀ t, Steps p.tables e below (T12.setTop (mkF m 138 #[.val (.int p1), .val (.int p2), .val (.int p3), .val (.int p4), .val (.ref b1), .val (.ref b3), .val (.ref b5), .val (.ref b7), .val (.int (((31 : Int32) * p1) + p2)), .val (.int (((31 : Int32) * p1) + p2)), .val (.int (((31 : Int32) * p1) + p4)), .val (.int (((31 : Int32) * p3) + p2))] [(.int (1 : Int32))])) t → Steps p.tables e below (s₁.setTop (entryFrame m #[(.int p1), (.int p2), (.int p3), (.int p4)] maxLocals)) t := by
        intro t k
        refine pre17 _ ?_
        show Steps p.tables e below (T12.setTop (mkF m 111 #[.val (.int p1), .val (.int p2), .val (.int p3), .val (.int p4), .val (.ref b1), .val (.ref b3), .val (.ref b5), .val (.ref b7), .val (.int (((31 : Int32) * p1) + p2)), .val (.int (((31 : Int32) * p1) + p2)), .val (.int (((31 : Int32) * p1) + p4)), .val (.int (((31 : Int32) * p3) + p2))] [(.int p3), (.int p1)])) _
        refine XS.icmpNo X12.here hx rfl (hb hby at_111) rfl (feq hc111).1 ?_
        show Steps p.tables e below (T12.setTop (mkF m 114 #[.val (.int p1), .val (.int p2), .val (.int p3), .val (.int p4), .val (.ref b1), .val (.ref b3), .val (.ref b5), .val (.ref b7), .val (.int (((31 : Int32) * p1) + p2)), .val (.int (((31 : Int32) * p1) + p2)), .val (.int (((31 : Int32) * p1) + p4)), .val (.int (((31 : Int32) * p3) + p2))] [])) _
        refine XS.iload X12.here hx rfl (hb hby at_114) rfl ?_
        show Steps p.tables e below (T12.setTop (mkF m 116 #[.val (.int p1), .val (.int p2), .val (.int p3), .val (.int p4), .val (.ref b1), .val (.ref b3), .val (.ref b5), .val (.ref b7), .val (.int (((31 : Int32) * p1) + p2)), .val (.int (((31 : Int32) * p1) + p2)), .val (.int (((31 : Int32) * p1) + p4)), .val (.int (((31 : Int32) * p3) + p2))] [(.int (((31 : Int32) * p1) + p2))])) _
        refine XS.iload X12.here hx rfl (hb hby at_116) rfl ?_
        show Steps p.tables e below (T12.setTop (mkF m 118 #[.val (.int p1), .val (.int p2), .val (.int p3), .val (.int p4), .val (.ref b1), .val (.ref b3), .val (.ref b5), .val (.ref b7), .val (.int (((31 : Int32) * p1) + p2)), .val (.int (((31 : Int32) * p1) + p2)), .val (.int (((31 : Int32) * p1) + p4)), .val (.int (((31 : Int32) * p3) + p2))] [(.int (((31 : Int32) * p3) + p2)), (.int (((31 : Int32) * p1) + p2))])) _
        refine XS.icmpYes X12.here hx rfl (pc0 := 118) (pc' := 123) rfl (hb hby at_118) rfl (feq (own_ne4 hc111 : ¬ ((((31 : Int32) * p1) + p2) = (((31 : Int32) * p3) + p2)))).2 (by decide) (by decide) ?_
        show Steps p.tables e below (T12.setTop (mkF m 123 #[.val (.int p1), .val (.int p2), .val (.int p3), .val (.int p4), .val (.ref b1), .val (.ref b3), .val (.ref b5), .val (.ref b7), .val (.int (((31 : Int32) * p1) + p2)), .val (.int (((31 : Int32) * p1) + p2)), .val (.int (((31 : Int32) * p1) + p4)), .val (.int (((31 : Int32) * p3) + p2))] [])) _
        refine XS.iloadN X12.here hx rfl (hb hby at_123) rfl ?_
        show Steps p.tables e below (T12.setTop (mkF m 124 #[.val (.int p1), .val (.int p2), .val (.int p3), .val (.int p4), .val (.ref b1), .val (.ref b3), .val (.ref b5), .val (.ref b7), .val (.int (((31 : Int32) * p1) + p2)), .val (.int (((31 : Int32) * p1) + p2)), .val (.int (((31 : Int32) * p1) + p4)), .val (.int (((31 : Int32) * p3) + p2))] [(.int p1)])) _
        refine XS.iloadN X12.here hx rfl (hb hby at_124) rfl ?_
        show Steps p.tables e below (T12.setTop (mkF m 125 #[.val (.int p1), .val (.int p2), .val (.int p3), .val (.int p4), .val (.ref b1), .val (.ref b3), .val (.ref b5), .val (.ref b7), .val (.int (((31 : Int32) * p1) + p2)), .val (.int (((31 : Int32) * p1) + p2)), .val (.int (((31 : Int32) * p1) + p4)), .val (.int (((31 : Int32) * p3) + p2))] [(.int p3), (.int p1)])) _
        refine XS.icmpYes X12.here hx rfl (pc0 := 125) (pc' := 137) rfl (hb hby at_125) rfl (feq hc111).2 (by decide) (by decide) ?_
        show Steps p.tables e below (T12.setTop (mkF m 137 #[.val (.int p1), .val (.int p2), .val (.int p3), .val (.int p4), .val (.ref b1), .val (.ref b3), .val (.ref b5), .val (.ref b7), .val (.int (((31 : Int32) * p1) + p2)), .val (.int (((31 : Int32) * p1) + p2)), .val (.int (((31 : Int32) * p1) + p4)), .val (.int (((31 : Int32) * p3) + p2))] [])) _
        refine XS.iconst X12.here hx rfl (hb hby at_137) ?_
        exact k
      obtain ⟨fs, hr, hrun, hended, hW, hsame⟩ := X12.leave (v := some (.int (1 : Int32))) (fun h => by rw [Bd.returns] at h; cases h)
      refine ⟨_, _, pre19 _ ?_, hrun, hended, _, _, rfl, ?_, ⟨_, rfl⟩, hW, hsame.mono (by decide) (by decide)⟩
      · show Steps p.tables e below (T12.setTop (mkF m 138 #[.val (.int p1), .val (.int p2), .val (.int p3), .val (.int p4), .val (.ref b1), .val (.ref b3), .val (.ref b5), .val (.ref b7), .val (.int (((31 : Int32) * p1) + p2)), .val (.int (((31 : Int32) * p1) + p2)), .val (.int (((31 : Int32) * p1) + p4)), .val (.int (((31 : Int32) * p3) + p2))] [(.int (1 : Int32))])) _
        exact retN X12 hx (t := .boolean) Bd.returns (by simp) (hb hby at_138) hr
      · show own_Q0 Z p1 p2 p3 p4 h0 n0 _ T12.heap _
        rw [e12]
        exact ⟨rfl, N12⟩
set_option maxRecDepth 65536 in
set_option maxHeartbeats 40000000 in
theorem comes_1 {Post : Tables → Env → Array Value → State → Outcome → State → Prop} (hpost : ∀ tb e args s v u, (limb_1_1.after args s (.returned v) u = true ∧ limb_1_2.after args s (.returned v) u = true ∧ True) → FrameEnd s (.returned v) u (Jvm.fieldLocs frame_1_writes args s ++ Jvm.arrayLocs frame_1_arrays args s ++ Jvm.staticLocs frame_1_statics s) 16 128 → Post tb e args s (.returned v) u) :
    ArmFor flags0 classFile x code maxLocals ret World_1 tables_1 room_1 Calls_1 rest_1 Pre_1 Post := by
  intro l hfl _ _ p e ha hc hk s m args below hf hA hF happ hP
  obtain ⟨hcalls, hrest, hpre⟩ := hP
  obtain ⟨-, -, -, hnamed, -, -, -, hat⟩ := (Spec.applies_iff hf).mp happ
  obtain ⟨hg, hn⟩ := and_e (Cond.before_iff.mp (show (Jvm.Cond.and given_1 narrow_1).before args s = true from hpre))
  obtain ⟨hg2, hg3⟩ := and_e hg
  obtain ⟨hg4, hg5⟩ := and_e hg3
  obtain ⟨hg6, hg7⟩ := and_e hg5
  obtain ⟨hg8, hg9⟩ := and_e hg7
  obtain ⟨w0, w1, w2, w3, rfl⟩ : ∃ w0 w1 w2 w3 : Value, args = #[w0, w1, w2, w3] := by
    have hs : args.size = 4 := by simpa [Cond.value, given_1] using hg2
    obtain ⟨L⟩ := args
    match L, hs with
    | [w0, w1, w2, w3], _ => exact ⟨w0, w1, w2, w3, rfl⟩
  have hw := fun d (hd : d ∈ tables_1) => atoms_spec (ws := Jvm.Cond.code x code maxLocals ret :: tables_1) hat d (List.mem_cons_of_mem _ hd)
  obtain ⟨i0, ei0⟩ := is_v hg4
  obtain rfl : w0 = (.int i0) := Option.some.inj ei0
  obtain ⟨i1, ei1⟩ := is_v hg6
  obtain rfl : w1 = (.int i1) := Option.some.inj ei1
  obtain ⟨i2, ei2⟩ := is_v hg8
  obtain rfl : w2 = (.int i2) := Option.some.inj ei2
  obtain ⟨i3, ei3⟩ := is_v hg9
  obtain rfl : w3 = (.int i3) := Option.some.inj ei3
  obtain ⟨n, o, h1, h2, h3, _, L, rfl, ⟨rfl, N⟩, hq⟩ := rm0 l s _ hw tables_1 i0 i1 i2 i3  s.heap s.heap.size (Nat.le_refl _)  p e ha hc hk s m _ below hf ((Spec.applies_iff_loose hf).mp happ).1 ⟨rfl, State.Warmed39.refl s, rfl⟩ trivial
  refine ⟨n, _, h1, h2, h3, hpost _ _ _ _ _ _ ⟨Cond.after_iff.mpr rfl, Cond.after_iff.mpr (eq_i res_at (Term.int_eval (1)) rfl), trivial⟩ ⟨hq.1, hq.2.1, (hq.2.2.sift fun y hy => Or.inr (N y hy)).mono (by decide) (by decide)⟩⟩
theorem main_1_1 : Claimed_1_1 := comes_1 fun _ _ _ _ _ _ h hF => ⟨h.1, hF⟩
theorem main_1_2 : Claimed_1_2 := comes_1 fun _ _ _ _ _ _ h hF => ⟨h.2.1, hF⟩
end Jvm.Pilot.@@N@@
namespace Jvm.Pilot.@@N@@
open Jvm Jvm.ClassFile Sem Op Lib Jvm.Free Jvm.Stand Jvm.Pilot.@@N@@.Jvm.D
/-! MADE BY PROGRAM (witnessworld.py) out of the Statement's table words and the real class files: 10 classes; the members and pool entries that the words name. The judged class is class 1, her method 1. -/
namespace start1
open Jvm.ClassFile
def u (s : String) : CpInfo := .utf8 (stringToUtf16 s)
/-- a pool by its gaps: so many unusable entries, then the entry; so many at the end -/
def gap : Nat → List CpInfo → List CpInfo
  | 0, r => r
  | n + 1, r => .unusable :: gap n r
def poolList (es : List (Nat × CpInfo)) (last : Nat) : List CpInfo := es.foldr (fun e r => gap e.1 (e.2 :: r)) (gap last [])
def pool (es : List (Nat × CpInfo)) (last : Nat) : Array CpInfo := ⟨poolList es last⟩
def fileOf (pool : Array CpInfo) (this : Nat) (attrs : Array Attribute := #[]) (ms : Array MethodInfo := #[]) (fl : Nat := 33) (sup : Nat := 0) (ifs : Array Nat := #[]) (fds : Array FieldInfo := #[]) : ClassFile where
  minorVersion := 0
  majorVersion := 65
  constantPool := pool
  accessFlags := fl
  thisClass := this
  superClass := sup
  interfaces := ifs
  fields := fds
  methods := ms
  attributes := attrs
def plain (name : String) (sup : Option ClassId) : Class where
  name := name
  kind := .ordinary
  loader := none
  accessFlags := 33
  super := sup
  interfaces := #[]
  cf := none
  fields := #[]
  methods := #[]
  instanceTypes := #[]
  staticTypes := #[]
  resolved := #[]
  callSites := []
  init := .initialized
  statics := none
  mirror := none

def pool0 : Array CpInfo := pool [(5, u "<init>"), (0, u "()V"), (1, .class_ 10), (1, u "java/lang/Object")] 113

def k0c0 : Code := { maxStack := 0, maxLocals := 1, code := object_method_1_code, exceptionTable := #[], attributes := #[] }
def k0m0 : Method := { name := "<init>", desc := "()V", sig := { parameters := [], returnType := none }, accessFlags := 1, code := some k0c0 }
/-- java/lang/Object -/
def k0 : Class := { plain "java/lang/Object" none with
  accessFlags := 33
  interfaces := #[]
  cf := some (fileOf pool0 8 #[] #[{ accessFlags := 1, nameIndex := 5, descriptorIndex := 6, attributes := #[] }] 33 0 #[] #[])
  fields := #[]
  methods := #[k0m0]
  instanceTypes := #[]
  staticTypes := #[]
  resolved := Array.replicate 124 none
  statics := none }

def pool1 : Array CpInfo := pool [(2, .class_ 4), (1, u "java/lang/Object"), (0, u "<init>"), (0, u "()V"), (0, .class_ 8), (0, u "com/example/modelspan/modelspan/uml/UmlMultiplicity"), (0, .methodref 7 10), (0, .nameAndType 5 11), (0, u "(II)V"), (0, .methodref 7 13), (0, .nameAndType 14 15), (0, u "hashCode"), (0, u "()I"), (0, .class_ 17), (0, u "com/example/modelspan/modelspan/uml/UmlMultiplicityHashCodePinLaw"), (2, u "law"), (0, u "(IIII)Z")] 3

def k1m0 : Method := { name := "<init>", desc := "()V", sig := { parameters := [], returnType := none }, accessFlags := 1, code := none }
def k1c1 : Code := { maxStack := 4, maxLocals := 12, code := code, exceptionTable := #[], attributes := #[] }
def k1m1 : Method := { name := "law", desc := "(IIII)Z", sig := { parameters := [.int, .int, .int, .int], returnType := some .boolean }, accessFlags := 9, code := some k1c1 }
/-- com/example/modelspan/modelspan/uml/UmlMultiplicityHashCodePinLaw -/
def k1 : Class := { plain "com/example/modelspan/modelspan/uml/UmlMultiplicityHashCodePinLaw" (some 0) with
  accessFlags := 49
  interfaces := #[]
  cf := some (fileOf pool1 16 #[] #[{ accessFlags := 1, nameIndex := 5, descriptorIndex := 6, attributes := #[] }, { accessFlags := 9, nameIndex := 20, descriptorIndex := 21, attributes := #[] }] 49 2 #[] #[])
  fields := #[]
  methods := #[k1m0, k1m1]
  instanceTypes := #[]
  staticTypes := #[]
  resolved := Array.replicate 25 none
  statics := none }

def pool2 : Array CpInfo := pool [(1, .methodref 2 3), (0, .class_ 4), (0, .nameAndType 5 6), (0, u "java/lang/Object"), (0, u "<init>"), (0, u "()V"), (0, .class_ 8), (0, u "java/lang/Record")] 13

def k2c0 : Code := { maxStack := 1, maxLocals := 1, code := jdk_30_method_1_code, exceptionTable := #[], attributes := #[] }
def k2m0 : Method := { name := "<init>", desc := "()V", sig := { parameters := [], returnType := none }, accessFlags := 4, code := some k2c0 }
/-- java/lang/Record -/
def k2 : Class := { plain "java/lang/Record" (some 0) with
  accessFlags := 1057
  interfaces := #[]
  cf := some (fileOf pool2 7 #[] #[{ accessFlags := 4, nameIndex := 5, descriptorIndex := 6, attributes := #[] }] 1057 2 #[] #[])
  fields := #[]
  methods := #[k2m0]
  instanceTypes := #[]
  staticTypes := #[]
  resolved := Array.replicate 22 none
  statics := none }

def pool3 : Array CpInfo := pool [(1, .methodref 2 3), (0, .class_ 4), (0, .nameAndType 5 6), (0, u "java/lang/Record"), (0, u "<init>"), (0, u "()V"), (0, .fieldref 8 9), (0, .class_ 10), (0, .nameAndType 11 12), (0, u "com/example/modelspan/modelspan/uml/UmlMultiplicity"), (0, u "lower"), (0, u "I"), (0, .fieldref 8 14), (0, .nameAndType 15 12), (0, u "upper"), (8, u "(II)V"), (2, u "ANY"), (0, u "Lcom/example/modelspan/modelspan/uml/UmlMultiplicity;"), (6, u "hashCode"), (0, u "()I")] 23

def k3c0 : Code := { maxStack := 2, maxLocals := 3, code := prog_94_method_1_code, exceptionTable := #[], attributes := #[] }
def k3m0 : Method := { name := "<init>", desc := "(II)V", sig := { parameters := [.int, .int], returnType := none }, accessFlags := 0, code := some k3c0 }
def k3c1 : Code := { maxStack := 2, maxLocals := 1, code := prog_94_method_3_code, exceptionTable := #[], attributes := #[] }
def k3m1 : Method := { name := "hashCode", desc := "()I", sig := { parameters := [], returnType := some .int }, accessFlags := 1, code := some k3c1 }
/-- com/example/modelspan/modelspan/uml/UmlMultiplicity -/
def k3 : Class := { plain "com/example/modelspan/modelspan/uml/UmlMultiplicity" (some 2) with
  accessFlags := 48
  interfaces := #[]
  cf := some (fileOf pool3 8 #[] #[{ accessFlags := 0, nameIndex := 5, descriptorIndex := 24, attributes := #[] }, { accessFlags := 1, nameIndex := 35, descriptorIndex := 36, attributes := #[] }] 48 2 #[] #[{ accessFlags := 18, nameIndex := 11, descriptorIndex := 12, attributes := #[] }, { accessFlags := 18, nameIndex := 15, descriptorIndex := 12, attributes := #[] }, { accessFlags := 24, nameIndex := 27, descriptorIndex := 28, attributes := #[] }])
  fields := #[{ name := "lower", type := .int, accessFlags := 18, slot := 0, constantValue := 0 }, { name := "upper", type := .int, accessFlags := 18, slot := 1, constantValue := 0 }, { name := "ANY", type := (.object "com/example/modelspan/modelspan/uml/UmlMultiplicity"), accessFlags := 24, slot := 0, constantValue := 0 }]
  methods := #[k3m0, k3m1]
  instanceTypes := #[.int, .int]
  staticTypes := #[(.object "com/example/modelspan/modelspan/uml/UmlMultiplicity")]
  resolved := Array.replicate 60 none
  statics := none }

def pool4 : Array CpInfo := pool [(1, u "java/lang/Cloneable"), (0, .class_ 1), (0, u "java/lang/Object"), (0, .class_ 3)] 3

/-- java/lang/Cloneable -/
def k4 : Class := { plain "java/lang/Cloneable" (some 0) with
  accessFlags := 1537
  interfaces := #[]
  cf := some (fileOf pool4 2 #[] #[] 1537 4 #[] #[])
  fields := #[]
  methods := #[]
  instanceTypes := #[]
  staticTypes := #[]
  resolved := Array.replicate 8 none
  statics := none }

def pool5 : Array CpInfo := pool [(1, u "java/io/Serializable"), (0, .class_ 1), (0, u "java/lang/Object"), (0, .class_ 3)] 3

/-- java/io/Serializable -/
def k5 : Class := { plain "java/io/Serializable" (some 0) with
  accessFlags := 1537
  interfaces := #[]
  cf := some (fileOf pool5 2 #[] #[] 1537 4 #[] #[])
  fields := #[]
  methods := #[]
  instanceTypes := #[]
  staticTypes := #[]
  resolved := Array.replicate 8 none
  statics := none }

/-- the primitive byte -/
def k6 : Class := { plain "byte" none with kind := .primitive 'B', accessFlags := 0x411 }
/-- [B -/
def k7 : Class := { plain "[B" (some 0) with kind := .array 6 .byte, interfaces := #[4, 5], accessFlags := 1041 }

/-- the primitive int -/
def k8 : Class := { plain "int" none with kind := .primitive 'I', accessFlags := 0x411 }
/-- [I -/
def k9 : Class := { plain "[I" (some 0) with kind := .array 8 .int, interfaces := #[4, 5], accessFlags := 1041 }

def heap : Heap := #[]
def classes : Array Class := #[k0, k1, k2, k3, k4, k5, k6, k7, k8, k9]
def interned : List (Array UInt16 × Addr) := []
def slotsUsed : Nat := 0
def theMethod : MethodId := ⟨1, 1⟩
def args0 : Array Value := #[.int 5, .int 7, .int 1, .int 2]
def aboutOver (below : List Frame) : State where
  vm := { classes := classes, interned := interned.toArray }
  heap := heap
  slotsUsed := slotsUsed
  threads := #[{ frames := .invoking theMethod args0 :: below }]
def below0 : List Frame := [.native { method := ⟨0, 0⟩, args := #[] }]
def about1 : State := aboutOver below0
def p0 : Program := .bare "" "" ""
def e0 : Env := launch0.env 0 0 0
theorem w_frames : about1.frames = Frame.invoking theMethod args0 :: below0 := rfl
set_option maxRecDepth 65536 in
theorem w_args : argsFit about1.vm theMethod args0 = true := by decide +kernel
set_option maxRecDepth 65536 in
theorem w_heap : heapFits about1 = true := by decide +kernel
set_option maxRecDepth 65536 in
theorem w_runnable : about1.curStatus? = some .runnable := by decide +kernel
set_option maxRecDepth 65536 in
theorem w_alone : about1.alone = true := by decide +kernel
set_option maxRecDepth 65536 in
theorem w_named : about1.methodNamed? x = some theMethod := by decide +kernel
set_option maxRecDepth 65536 in
theorem w_hears : about1.hears theMethod below0 = true := by decide +kernel
set_option maxRecDepth 65536 in
theorem w_ripe : about1.ripe theMethod args0 below0 = true := by decide +kernel
theorem w_running : about1.status = .running := rfl
set_option maxRecDepth 65536 in
theorem w_room : about1.hasRoom e0.platform room_1 = true :=
  launch0.hasRoom_least _ room_1 (by decide +kernel) (by decide +kernel) (by decide +kernel) (by decide +kernel) (by decide +kernel) (by decide +kernel)
theorem allAtoms_all (ts : List Jvm.Cond) (a : Array Jvm.Value) (st : Jvm.State) : (allAtoms ts).before a st = ts.all (fun c => c.before a st) := by
  induction ts with
  | nil => rfl
  | cons c t ih =>
    show (Jvm.Cond.and c (allAtoms t)).before a st = _
    rw [Jvm.Cond.before_and, ih, List.all_cons]
def words1 : List Jvm.Cond := Jvm.Cond.code x code maxLocals ret :: tables_1
/-- a 'code' word, met by the world's own term for the bytes: nothing is compared byte by byte -/
theorem code_word {y : MethodName} {bytes : ByteArray} {mx : Nat} {rt : Option FieldType} {a : Array Value} {s : State} {m : MethodId} {meth : Method} {c : Code} (h1 : s.methodNamed? y = some m) (h2 : s.vm.method? m = some meth) (h3 : meth.code = some c) (h4 : c.code = bytes)
    (h5 : (c.maxLocals == mx && c.exceptionTable.isEmpty && decide (c.maxStack ≤ mostOperands) && decide (meth.sig.returnType = rt) && !meth.locks && decide (parseMethodDescriptor y.desc = some meth.sig)) = true) : (Jvm.Cond.code y bytes mx rt).before a s = true := by
  simp only [Bool.and_eq_true, beq_iff_eq, Bool.not_eq_true', decide_eq_true_eq] at h5
  obtain ⟨⟨⟨⟨⟨g1, g2⟩, g3⟩, g4⟩, g5⟩, g6⟩ := h5
  simp [Cond.before, Cond.holds, Cond.value, h1, h2, h3, h4, g1, g2, g3, g4, g5, g6]
def isCode : Jvm.Cond → Bool
  | .code _ _ _ _ => true
  | _ => false
theorem all_split {L : List Jvm.Cond} {P : Jvm.Cond → Bool} (h1 : L.all (fun c => isCode c || P c) = true) (h2 : ∀ c ∈ L.filter isCode, P c = true) : L.all P = true := by
  refine List.all_eq_true.mpr fun c hc => ?_
  have h := List.all_eq_true.mp h1 c hc
  rcases Bool.eq_false_or_eq_true (isCode c) with hi | hi
  · exact h2 c (List.mem_filter.mpr ⟨hc, hi⟩)
  · simpa [hi] using h
set_option maxRecDepth 65536 in
theorem w_c0 : (Jvm.Cond.code x code maxLocals ret).before args0 about1 = true := code_word (m := ⟨1, 1⟩) (meth := k1m1) (c := k1c1) (by decide +kernel) rfl rfl rfl (by decide +kernel)
set_option maxRecDepth 65536 in
theorem w_c1 : (Jvm.Cond.code ({ cls := "com/example/modelspan/modelspan/uml/UmlMultiplicity", name := "<init>", desc := "(II)V" } : Jvm.MethodName) prog_94_method_1_code (3 : Nat) (Option.none : Option Jvm.ClassFile.FieldType)).before args0 about1 = true := code_word (m := ⟨3, 0⟩) (meth := k3m0) (c := k3c0) (by decide +kernel) rfl rfl rfl (by decide +kernel)
set_option maxRecDepth 65536 in
theorem w_c2 : (Jvm.Cond.code ({ cls := "java/lang/Record", name := "<init>", desc := "()V" } : Jvm.MethodName) jdk_30_method_1_code (1 : Nat) (Option.none : Option Jvm.ClassFile.FieldType)).before args0 about1 = true := code_word (m := ⟨2, 0⟩) (meth := k2m0) (c := k2c0) (by decide +kernel) rfl rfl rfl (by decide +kernel)
set_option maxRecDepth 65536 in
theorem w_c3 : (Jvm.Cond.code ({ cls := "java/lang/Object", name := "<init>", desc := "()V" } : Jvm.MethodName) object_method_1_code (1 : Nat) (Option.none : Option Jvm.ClassFile.FieldType)).before args0 about1 = true := code_word (m := ⟨0, 0⟩) (meth := k0m0) (c := k0c0) (by decide +kernel) rfl rfl rfl (by decide +kernel)
set_option maxRecDepth 65536 in
theorem w_c4 : (Jvm.Cond.code ({ cls := "com/example/modelspan/modelspan/uml/UmlMultiplicity", name := "hashCode", desc := "()I" } : Jvm.MethodName) prog_94_method_3_code (1 : Nat) (Option.some Jvm.ClassFile.FieldType.int)).before args0 about1 = true := code_word (m := ⟨3, 1⟩) (meth := k3m1) (c := k3c1) (by decide +kernel) rfl rfl rfl (by decide +kernel)
def codes1 : List Jvm.Cond := [Jvm.Cond.code x code maxLocals ret, Jvm.Cond.code ({ cls := "com/example/modelspan/modelspan/uml/UmlMultiplicity", name := "<init>", desc := "(II)V" } : Jvm.MethodName) prog_94_method_1_code (3 : Nat) (Option.none : Option Jvm.ClassFile.FieldType), Jvm.Cond.code ({ cls := "java/lang/Record", name := "<init>", desc := "()V" } : Jvm.MethodName) jdk_30_method_1_code (1 : Nat) (Option.none : Option Jvm.ClassFile.FieldType), Jvm.Cond.code ({ cls := "java/lang/Object", name := "<init>", desc := "()V" } : Jvm.MethodName) object_method_1_code (1 : Nat) (Option.none : Option Jvm.ClassFile.FieldType), Jvm.Cond.code ({ cls := "com/example/modelspan/modelspan/uml/UmlMultiplicity", name := "hashCode", desc := "()I" } : Jvm.MethodName) prog_94_method_3_code (1 : Nat) (Option.some Jvm.ClassFile.FieldType.int)]
set_option maxRecDepth 65536 in
theorem codes_eq : words1.filter isCode = codes1 := rfl
theorem w_codes : ∀ c ∈ words1.filter isCode, c.before args0 about1 = true := by
  rw [codes_eq]
  intro c hc
  simp only [codes1, List.mem_cons, List.not_mem_nil, or_false] at hc
  rcases hc with rfl | rfl | rfl | rfl | rfl
  · exact w_c0
  · exact w_c1
  · exact w_c2
  · exact w_c3
  · exact w_c4
set_option maxRecDepth 65536 in
theorem w_t1 : words1.all (fun c => isCode c || c.before args0 about1) = true := by decide +kernel
theorem w_tables : (allAtoms (Jvm.Cond.code x code maxLocals ret :: tables_1)).before args0 about1 = true := by
  rw [allAtoms_all]
  show words1.all (fun c => c.before args0 about1) = true
  refine all_split ?_ w_codes
  rw [w_t1]
set_option maxRecDepth 65536 in
theorem w_case : (Jvm.Cond.and given_1 narrow_1).before args0 about1 = true := by decide +kernel
theorem w_applies : (headSpec (Jvm.Cond.code x code maxLocals ret :: tables_1) room_1).applies x e0.platform about1 = true :=
  (Spec.applies_iff w_frames).mpr ⟨w_running, w_runnable, w_alone, w_named, w_hears, w_ripe, w_room, w_tables⟩
theorem atStart : AtStart classFile x code maxLocals ret World_1 tables_1 room_1 Calls_1 rest_1 Pre_1 launch0 p0 e0 about1 theMethod args0 below0 :=
  ⟨lists_1, trivial, launch0.admits_env _ _ _, launch0.least_env, fairChoices_fair.cas, fairChoices_fair.clock, w_frames, w_args, w_heap, w_applies, trivial, trivial, w_case⟩
end start1
theorem witness_1 : WitnessClaimed_1 := ⟨start1.p0, start1.e0, start1.about1, start1.theMethod, start1.args0, start1.below0, start1.atStart⟩
end Jvm.Pilot.@@N@@
