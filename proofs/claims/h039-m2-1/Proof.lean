import JvmDerived
import JvmDerived.Pilot.@@N@@Statement
import JvmDerived.Pilot.@@N@@Code
set_option linter.unusedVariables false
set_option linter.unusedSimpArgs false
namespace Jvm.RoadKit
open Sem ClassFile Op Lib Jvm.Stand Jvm.Free Jvm.LawKit
section New
variable {p : Program} {l : Launch} {e : Env} {R : Room} {s : State} {m : MethodId} {args : Array Value} {below : List Frame} {meth : Method} {c : Code} {T : State} {locs : List Loc} {cells slots : Nat}
theorem retI (X : Stand p l e R s m args below meth c T locs cells slots) (hx : p.tables.exec = Jvm.exec) {pc : Nat} {Ls : Array Slot} {z : Int32} {rest : List Value} (hret : meth.sig.returnType = some .int) (hd : decode c.code pc = .ok (.ireturn, 1)) {fs : List Frame}
    (hl : ∀ (f : JFrame) (acts : List Action), f.method = m → f.locked = none → f.entered = [] → (doReturn e (T.setTop f) acts (some (.int z))).1 = T.setFrames fs) : Steps p.tables e below (T.setTop (mkF m pc Ls (.int z :: rest))) (T.setFrames fs) := by
  have hm' : T.vm.method? m = some meth := X.method'
  have hn : narrow .int (.int z) = .int z := rfl
  show Steps p.tables e below (T.setTop { method := m, pc := pc, locals := Ls, stack := _ :: rest, locked := none }) _
  jvm_step X.here [X.here.top, hx, hd, hm', hret, hn]
  first | (intro acts; rw [hl _ acts rfl rfl rfl]) | rw [hl _ _ rfl rfl rfl]
  exact Steps.refl _
end New
end Jvm.RoadKit
namespace Jvm.Pilot.@@N@@
open Jvm Jvm.ClassFile Sem Op Lib Jvm.Free Jvm.Stand Jvm.LawKit Jvm.RoadKit Bundle Jvm.Pilot.@@N@@.Jvm.D
theorem own_lt (a b : Int32) : a < b ↔ a.toInt < b.toInt := Int32.lt_iff_toInt_lt
theorem own_eq (a b : Int32) : a = b ↔ a.toInt = b.toInt := Int32.toInt_inj.symm
theorem own_getI (l : List Int32) (k : Nat) : (l.map Value.int).getD k (.int 0) = .int (l.getD k 0) := by
  induction l generalizing k with
  | nil => rfl
  | cons a t ih => cases k with
    | zero => rfl
    | succ k => exact ih k
theorem own_nv {z : Int32} (h : z = 0 ∨ z = 1) : narrow .boolean (.int z) = .int z := by rcases h with rfl | rfl <;> rfl
theorem own_fitb {z : Int32} (h : z = 0 ∨ z = 1) : fits .boolean (.int z) = true := by rcases h with rfl | rfl <;> rfl
theorem own_nar {z : Int32} (h : z = 0 ∨ z = 1) : nar .boolean z = z := by rcases h with rfl | rfl <;> rfl
def own_ne (a b : Int32) : Int32 := if a = b then 0 else 1
theorem own_ne1 {a b : Int32} (h : ¬ a = b) : (1 : Int32) = own_ne a b := by rw [own_ne, if_neg h]
theorem own_ne0 {a b : Int32} (h : a = b) : (0 : Int32) = own_ne a b := by rw [own_ne, if_pos h]
theorem own_neS (a b : Int32) : own_ne a b = own_ne b a := by
  by_cases h : a = b
  · rw [own_ne, own_ne, if_pos h, if_pos h.symm]
  · rw [own_ne, own_ne, if_neg h, if_neg fun q => h q.symm]
theorem own_pn2 : plainName "com/example/modelspan/modelspan/express/WalkedNode" = true := by first | (simp [plainName, overriddenIn]; done) | decide +kernel
theorem own_pn1 : plainName "com/example/modelspan/modelspan/express/WalkedNodeMeetPinLaw" = true := by first | (simp [plainName, overriddenIn]; done) | decide +kernel
theorem own_pd0 : parseMethodDescriptor "()V" = some ⟨[], none⟩ := by decide +kernel
theorem own_pn4 : plainName "com/example/modelspan/modelspan/express/WalkedNode" = true := by first | (simp [plainName, overriddenIn]; done) | decide +kernel
theorem own_pn0 : plainName "com/example/modelspan/modelspan/express/WalkedNodeMeetPinLaw" = true := by first | (simp [plainName, overriddenIn]; done) | decide +kernel
theorem own_pd1 : parseMethodDescriptor "(I)Z" = some ⟨[.int], some .boolean⟩ := by decide +kernel
theorem own_d2_0 : decode prog_70_method_1_code 0 = .ok (.aload_n 0, 1) := by decide +kernel
theorem own_d2_1 : decode prog_70_method_1_code 1 = .ok (.invokespecial 1, 3) := by decide +kernel
theorem own_d2_4 : decode prog_70_method_1_code 4 = .ok (.return_, 1) := by decide +kernel
theorem own_ef2 (m : MethodId) (x0 : Addr) : entryFrame m #[(.ref x0)] 1 = mkF m 0 #[.val (.ref x0)] [] := by first | (simp [entryFrame, mkF, argsToLocals, Value.category]; done) | rfl
def own_Q2 (Z : State) (a1 : Addr) (h0 : Heap) (n0 : Nat) (v : Option Value) (h : Heap) (L : List Loc) : Prop := v = none ∧ Fr n0 L ∧ h = h0
set_option maxRecDepth 65536 in
set_option maxHeartbeats 40000000 in
theorem rm2 (l : Launch) (Z : State) (a0 : Array Value) (hw : ∀ d ∈ tables_1, d.before a0 Z = true) (ws : List Jvm.Cond) (a1 : Addr) (h0 : Heap) (n0 : Nat) (Z0 : n0 ≤ h0.size)  :
    MetFree l (⟨"com/example/modelspan/modelspan/express/WalkedNode", "<init>", "()V"⟩ : MethodName) (head1 (Jvm.Cond.code (⟨"com/example/modelspan/modelspan/express/WalkedNode", "<init>", "()V"⟩ : MethodName) prog_70_method_1_code 1 none :: ws) ({ frames := 1, cells := 0, slots := 0, locals := 12 } : Room)) (fun a U => a = #[(.ref a1)] ∧ Z.Warmed39 U.vm ∧ U.heap = h0) (fun _ _ _ _ _ => True) (fun _ U o U' => ∃ v L, o = .returned v ∧ own_Q2 Z a1 h0 n0 v U'.heap L ∧ FrameEnd U o U' L ({ frames := 1, cells := 0, slots := 0, locals := 12 } : Room).cells ({ frames := 1, cells := 0, slots := 0, locals := 12 } : Room).slots) := by
  refine MetFree.of_bodySF (plainFor_of_name own_pn2) hisR ?_
  intro p e s m args below meth c s₁ Bd hml0 hP hK
  obtain ⟨rfl, hZ, hh⟩ := hP
  have hx := Bd.exec
  have hby := Bd.bytes
  have hml : c.maxLocals = 1 := hml0
  have hown : s.vm.findClass "com/example/modelspan/modelspan/express/WalkedNode" = some m.cls := findClass_of_methodNamed Bd.named
  have hnm := (name_of_methodNamed Bd.named Bd.method).1
  have X0 : Stand p l e ({ frames := 1, cells := 0, slots := 0, locals := 12 } : Room) s m #[(.ref a1)] below meth c s₁ [] 0 0 := Stand.of_body Bd
  have e0 : s₁.heap = h0 := by rw [← hh, Bd.state]; rfl
  have N0 := Fr.nil n0
  have pre0 : ∀ t, Steps p.tables e below (s₁.setTop (mkF m 0 #[.val (.ref a1)] [])) t → Steps p.tables e below (s₁.setTop (entryFrame m #[(.ref a1)] 1)) t := fun t k => castTop (own_ef2 m a1) k
  obtain ⟨T1, X1, e1, st1⟩ := initO X0 hx hZ hown (hw _ (List.mem_of_getElem? (i := 11) rfl)) (hw _ (List.mem_of_getElem? (i := 12) rfl)) (hw _ (List.mem_of_getElem? (i := 13) rfl)) e0 (g := (mkF m 1 #[.val (.ref a1)] [(.ref a1)])) rfl (by rw [hml]; rfl) rfl (hb hby own_d2_1) (by decide) (W := 0) (by show 2 * 0 + _ ≤ _; exact Nat.le_of_eq rfl) (by decide)
  have pre2 : ∀ t, Steps p.tables e below (T1.setTop (mkF m 4 #[.val (.ref a1)] [])) t → Steps p.tables e below (s₁.setTop (entryFrame m #[(.ref a1)] 1)) t := by
    intro t k
    refine pre0 _ ?_
    show Steps p.tables e below (s₁.setTop (mkF m 0 #[.val (.ref a1)] [])) _
    refine XS.aloadN X0.here hx rfl (hb hby own_d2_0) rfl rfl ?_
    show Steps p.tables e below (s₁.setTop (mkF m 1 #[.val (.ref a1)] [(.ref a1)])) _
    refine st1 _ ?_
    exact k
  obtain ⟨fs, hr, hrun, hended, hW, hsame⟩ := X1.leave (v := none) (fun _ => rfl)
  refine ⟨_, _, pre2 _ ?_, hrun, hended, _, _, rfl, ?_, ⟨_, rfl⟩, hW, hsame.mono (by decide) (by decide)⟩
  · show Steps p.tables e below (T1.setTop (mkF m 4 #[.val (.ref a1)] [])) _
    exact X1.returnOut hx Bd.returns (hb hby own_d2_4) hr
  · show own_Q2 Z a1 h0 n0 _ T1.heap _
    rw [e1]
    exact ⟨rfl, N0, rfl⟩
theorem own_d1_0 : decode method_1_code 0 = .ok (.aload_n 0, 1) := by decide +kernel
theorem own_d1_1 : decode method_1_code 1 = .ok (.invokespecial 1, 3) := by decide +kernel
theorem own_d1_4 : decode method_1_code 4 = .ok (.return_, 1) := by decide +kernel
theorem own_ef1 (m : MethodId) (x0 : Addr) : entryFrame m #[(.ref x0)] 1 = mkF m 0 #[.val (.ref x0)] [] := by first | (simp [entryFrame, mkF, argsToLocals, Value.category]; done) | rfl
def own_Q1 (Z : State) (a1 : Addr) (h0 : Heap) (n0 : Nat) (v : Option Value) (h : Heap) (L : List Loc) : Prop := v = none ∧ Fr n0 L ∧ h = h0
set_option maxRecDepth 65536 in
set_option maxHeartbeats 40000000 in
theorem rm1 (l : Launch) (Z : State) (a0 : Array Value) (hw : ∀ d ∈ tables_1, d.before a0 Z = true) (ws : List Jvm.Cond) (a1 : Addr) (h0 : Heap) (n0 : Nat) (Z0 : n0 ≤ h0.size)  :
    MetFree l (⟨"com/example/modelspan/modelspan/express/WalkedNodeMeetPinLaw", "<init>", "()V"⟩ : MethodName) (head1 (Jvm.Cond.code (⟨"com/example/modelspan/modelspan/express/WalkedNodeMeetPinLaw", "<init>", "()V"⟩ : MethodName) method_1_code 1 none :: ws) ({ frames := 2, cells := 0, slots := 0, locals := 24 } : Room)) (fun a U => a = #[(.ref a1)] ∧ Z.Warmed39 U.vm ∧ U.heap = h0) (fun _ _ _ _ _ => True) (fun _ U o U' => ∃ v L, o = .returned v ∧ own_Q1 Z a1 h0 n0 v U'.heap L ∧ FrameEnd U o U' L ({ frames := 2, cells := 0, slots := 0, locals := 24 } : Room).cells ({ frames := 2, cells := 0, slots := 0, locals := 24 } : Room).slots) := by
  refine MetFree.of_bodySF (plainFor_of_name own_pn1) hisR ?_
  intro p e s m args below meth c s₁ Bd hml0 hP hK
  obtain ⟨rfl, hZ, hh⟩ := hP
  have hx := Bd.exec
  have hby := Bd.bytes
  have hml : c.maxLocals = 1 := hml0
  have hown : s.vm.findClass "com/example/modelspan/modelspan/express/WalkedNodeMeetPinLaw" = some m.cls := findClass_of_methodNamed Bd.named
  have hnm := (name_of_methodNamed Bd.named Bd.method).1
  have X0 : Stand p l e ({ frames := 2, cells := 0, slots := 0, locals := 24 } : Room) s m #[(.ref a1)] below meth c s₁ [] 0 0 := Stand.of_body Bd
  have e0 : s₁.heap = h0 := by rw [← hh, Bd.state]; rfl
  have N0 := Fr.nil n0
  have pre0 : ∀ t, Steps p.tables e below (s₁.setTop (mkF m 0 #[.val (.ref a1)] [])) t → Steps p.tables e below (s₁.setTop (entryFrame m #[(.ref a1)] 1)) t := fun t k => castTop (own_ef1 m a1) k
  obtain ⟨_, _, ⟨T1, L1, k1, n1⟩, -, X1, ⟨Lc1, hQ1, l1, y1, z1⟩, st1⟩ := X0.specialBack hx (y := (⟨"com/example/modelspan/modelspan/express/WalkedNode", "<init>", "()V"⟩ : MethodName)) rfl hown (mvT hZ (hw _ (List.mem_of_getElem? (i := 6) rfl))) (mvT hZ (hw _ (List.mem_of_getElem? (i := 7) rfl))) (mvT hZ (hw _ (List.mem_of_getElem? (i := 10) rfl))) (by decide) (backOf (W := 0) (rm2 l Z a0 hw [] a1  h0 n0 Z0 ) hZ (hw _ (List.mem_of_getElem? (i := 10) rfl)) (hw _ (List.mem_of_getElem? (i := 9) rfl)) (by decide) (by decide)) (g := (mkF m 1 #[.val (.ref a1)] [(.ref a1)])) rfl (by rw [hml]; rfl) (Steps.refl _) (a := a1) (argsL := []) (rest := []) (lenOf own_pd0 rfl) rfl (by show 2 * 0 + _ ≤ _; exact Nat.le_of_eq rfl) (hb hby own_d1_1) (fun _ _ => ⟨rfl, e0, (by decide : 0 + 0 ≤ _), (by decide : 0 + 0 ≤ _)⟩)
  dsimp only [Pt.U, Pt.locs, Pt.cells, Pt.slots] at X1 l1 y1 z1 st1 hQ1
  subst l1 y1 z1
  obtain ⟨rfl, N1q, e1⟩ := hQ1
  have N1 := Fr.app N0 N1q
  have pre2 : ∀ t, Steps p.tables e below (T1.setTop (mkF m 4 #[.val (.ref a1)] [])) t → Steps p.tables e below (s₁.setTop (entryFrame m #[(.ref a1)] 1)) t := by
    intro t k
    refine pre0 _ ?_
    show Steps p.tables e below (s₁.setTop (mkF m 0 #[.val (.ref a1)] [])) _
    refine XS.aloadN X0.here hx rfl (hb hby own_d1_0) rfl rfl ?_
    show Steps p.tables e below (s₁.setTop (mkF m 1 #[.val (.ref a1)] [(.ref a1)])) _
    refine st1.trans ?_
    exact k
  obtain ⟨fs, hr, hrun, hended, hW, hsame⟩ := X1.leave (v := none) (fun _ => rfl)
  refine ⟨_, _, pre2 _ ?_, hrun, hended, _, _, rfl, ?_, ⟨_, rfl⟩, hW, hsame.mono (by decide) (by decide)⟩
  · show Steps p.tables e below (T1.setTop (mkF m 4 #[.val (.ref a1)] [])) _
    exact X1.returnOut hx Bd.returns (hb hby own_d1_4) hr
  · show own_Q1 Z a1 h0 n0 _ T1.heap _
    rw [e1]
    exact ⟨rfl, N1, rfl⟩
theorem own_d4_0 : decode prog_70_method_2_code 0 = .ok (.aload_n 0, 1) := by decide +kernel
theorem own_d4_1 : decode prog_70_method_2_code 1 = .ok (.getfield 7, 3) := by decide +kernel
theorem own_d4_4 : decode prog_70_method_2_code 4 = .ok (.iload_n 1, 1) := by decide +kernel
theorem own_d4_5 : decode prog_70_method_2_code 5 = .ok (.if_icmp .eq 7, 3) := by decide +kernel
theorem own_d4_8 : decode prog_70_method_2_code 8 = .ok (.iconst 1, 1) := by decide +kernel
theorem own_d4_9 : decode prog_70_method_2_code 9 = .ok (.goto 4, 3) := by decide +kernel
theorem own_d4_12 : decode prog_70_method_2_code 12 = .ok (.iconst 0, 1) := by decide +kernel
theorem own_d4_13 : decode prog_70_method_2_code 13 = .ok (.istore_n 2, 1) := by decide +kernel
theorem own_d4_14 : decode prog_70_method_2_code 14 = .ok (.aload_n 0, 1) := by decide +kernel
theorem own_d4_15 : decode prog_70_method_2_code 15 = .ok (.iload_n 1, 1) := by decide +kernel
theorem own_d4_16 : decode prog_70_method_2_code 16 = .ok (.putfield 7, 3) := by decide +kernel
theorem own_d4_19 : decode prog_70_method_2_code 19 = .ok (.iload_n 2, 1) := by decide +kernel
theorem own_d4_20 : decode prog_70_method_2_code 20 = .ok (.ireturn, 1) := by decide +kernel
theorem own_ef4 (m : MethodId) (x0 : Addr) (x1 : Int32) : entryFrame m #[(.ref x0), (.int x1)] 3 = mkF m 0 #[.val (.ref x0), .val (.int x1), .unset] [] := by first | (simp [entryFrame, mkF, argsToLocals, Value.category]; done) | rfl
def own_Q4 (Z : State) (a1 : Addr) (p2 : Int32) (w1 : Int32) (h0 : Heap) (n0 : Nat) (v : Option Value) (h : Heap) (L : List Loc) : Prop := v = some (.int (own_ne w1 p2)) ∧ Fr n0 L ∧ Keep h0 h [a1] ∧ Exa Z h a1 "com/example/modelspan/modelspan/express/WalkedNodeMeetPinLaw" ∧ Fld Z h a1 "com/example/modelspan/modelspan/express/WalkedNode" "metBy" "I" (.int p2)
set_option maxRecDepth 65536 in
set_option maxHeartbeats 40000000 in
theorem rm4 (l : Launch) (Z : State) (a0 : Array Value) (hw : ∀ d ∈ tables_1, d.before a0 Z = true) (ws : List Jvm.Cond) (a1 : Addr) (p2 : Int32) (w1 : Int32) (h0 : Heap) (n0 : Nat) (Z0 : n0 ≤ h0.size) (E_a1 : Exa Z h0 a1 "com/example/modelspan/modelspan/express/WalkedNodeMeetPinLaw") (F_metBy_a1 : Fld Z h0 a1 "com/example/modelspan/modelspan/express/WalkedNode" "metBy" "I" (.int w1)) (g_a1 : n0 ≤ a1) :
    MetFree l (⟨"com/example/modelspan/modelspan/express/WalkedNode", "meet", "(I)Z"⟩ : MethodName) (head1 (Jvm.Cond.code (⟨"com/example/modelspan/modelspan/express/WalkedNode", "meet", "(I)Z"⟩ : MethodName) prog_70_method_2_code 3 (some .boolean) :: ws) ({ frames := 0, cells := 0, slots := 0, locals := 0 } : Room)) (fun a U => a = #[(.ref a1), (.int p2)] ∧ Z.Warmed39 U.vm ∧ U.heap = h0) (fun _ _ _ _ _ => True) (fun _ U o U' => ∃ v L, o = .returned v ∧ own_Q4 Z a1 p2 w1 h0 n0 v U'.heap L ∧ FrameEnd U o U' L ({ frames := 0, cells := 0, slots := 0, locals := 0 } : Room).cells ({ frames := 0, cells := 0, slots := 0, locals := 0 } : Room).slots) := by
  refine MetFree.of_bodySF (plainFor_of_name own_pn4) hisR ?_
  intro p e s m args below meth c s₁ Bd hml0 hP hK
  obtain ⟨rfl, hZ, hh⟩ := hP
  have hx := Bd.exec
  have hby := Bd.bytes
  have hml : c.maxLocals = 3 := hml0
  have hown : s.vm.findClass "com/example/modelspan/modelspan/express/WalkedNode" = some m.cls := findClass_of_methodNamed Bd.named
  have hnm := (name_of_methodNamed Bd.named Bd.method).1
  have X0 : Stand p l e ({ frames := 0, cells := 0, slots := 0, locals := 0 } : Room) s m #[(.ref a1), (.int p2)] below meth c s₁ [] 0 0 := Stand.of_body Bd
  have e0 : s₁.heap = h0 := by rw [← hh, Bd.state]; rfl
  have N0 := Fr.nil n0
  have pre0 : ∀ t, Steps p.tables e below (s₁.setTop (mkF m 0 #[.val (.ref a1), .val (.int p2), .unset] [])) t → Steps p.tables e below (s₁.setTop (entryFrame m #[(.ref a1), (.int p2)] 3)) t := fun t k => castTop (own_ef4 m a1 p2) k
  have K0 := Keep.refl h0 [a1]
  obtain ⟨T1, X1, e1, st1⟩ := getF X0 hx hZ hown (host := "") (Or.inl (hw _ (List.mem_of_getElem? (i := 20) rfl))) Via.refl e0 F_metBy_a1 (g := (mkF m 1 #[.val (.ref a1), .val (.int p2), .unset] [(.ref a1)])) rfl rfl (hb hby own_d4_1)
  have pre2 : ∀ t, Steps p.tables e below (T1.setTop (mkF m 5 #[.val (.ref a1), .val (.int p2), .unset] [(.int p2), (.int w1)])) t → Steps p.tables e below (s₁.setTop (entryFrame m #[(.ref a1), (.int p2)] 3)) t := by
    intro t k
    refine pre0 _ ?_
    show Steps p.tables e below (s₁.setTop (mkF m 0 #[.val (.ref a1), .val (.int p2), .unset] [])) _
    refine XS.aloadN X0.here hx rfl (hb hby own_d4_0) rfl rfl ?_
    show Steps p.tables e below (s₁.setTop (mkF m 1 #[.val (.ref a1), .val (.int p2), .unset] [(.ref a1)])) _
    refine st1 _ ?_
    show Steps p.tables e below (T1.setTop (mkF m 4 #[.val (.ref a1), .val (.int p2), .unset] [(.int w1)])) _
    refine XS.iloadN X1.here hx rfl (hb hby own_d4_4) rfl ?_
    exact k
  by_cases hc5 : w1 = p2
  · -- hc5 
    obtain ⟨T3, h3, X3, e3, W3, st3⟩ := putF X1 hx hZ hown (host := "") (Or.inl (hw _ (List.mem_of_getElem? (i := 20) rfl))) Via.refl e1 F_metBy_a1 E_a1 (Or.inl (hw _ (List.mem_of_getElem? (i := 21) rfl))) (hw _ (List.mem_of_getElem? (i := 1) rfl)) (ty := .int) (by decide) rfl rfl (g := (mkF m 16 #[.val (.ref a1), .val (.int p2), .val (.int (0 : Int32))] [(.int p2), (.ref a1)])) rfl rfl (hb hby own_d4_16)
    have E_a1 := E_a1.wr W3
    have Z3 : n0 ≤ h3.size := Nat.le_trans Z0 (Keep.of_wr W3).1
    have K3 := K0.wr W3 (Or.inl (List.mem_of_getElem? (i := 0) rfl))
    have N3 := Fr.snoc X3 N0 g_a1
    have F_metBy_a1 : Fld Z h3 a1 "com/example/modelspan/modelspan/express/WalkedNode" "metBy" "I" (.int p2) := F_metBy_a1.same W3
    have pre4 : ∀ t, Steps p.tables e below (T3.setTop (mkF m 20 #[.val (.ref a1), .val (.int p2), .val (.int (0 : Int32))] [(.int (0 : Int32))])) t → Steps p.tables e below (s₁.setTop (entryFrame m #[(.ref a1), (.int p2)] 3)) t := by
      intro t k
      refine pre2 _ ?_
      show Steps p.tables e below (T1.setTop (mkF m 5 #[.val (.ref a1), .val (.int p2), .unset] [(.int p2), (.int w1)])) _
      refine XS.icmpYes X1.here hx rfl (pc0 := 5) (pc' := 12) rfl (hb hby own_d4_5) rfl (teq hc5).1 (by decide) (by decide) ?_
      show Steps p.tables e below (T1.setTop (mkF m 12 #[.val (.ref a1), .val (.int p2), .unset] [])) _
      refine XS.iconst X1.here hx rfl (hb hby own_d4_12) ?_
      show Steps p.tables e below (T1.setTop (mkF m 13 #[.val (.ref a1), .val (.int p2), .unset] [(.int (0 : Int32))])) _
      refine XS.istoreN X1.here hx rfl (hb hby own_d4_13) rfl (l' := #[.val (.ref a1), .val (.int p2), .val (.int (0 : Int32))]) rfl ?_
      show Steps p.tables e below (T1.setTop (mkF m 14 #[.val (.ref a1), .val (.int p2), .val (.int (0 : Int32))] [])) _
      refine XS.aloadN X1.here hx rfl (hb hby own_d4_14) rfl rfl ?_
      show Steps p.tables e below (T1.setTop (mkF m 15 #[.val (.ref a1), .val (.int p2), .val (.int (0 : Int32))] [(.ref a1)])) _
      refine XS.iloadN X1.here hx rfl (hb hby own_d4_15) rfl ?_
      show Steps p.tables e below (T1.setTop (mkF m 16 #[.val (.ref a1), .val (.int p2), .val (.int (0 : Int32))] [(.int p2), (.ref a1)])) _
      refine st3 _ ?_
      show Steps p.tables e below (T3.setTop (mkF m 19 #[.val (.ref a1), .val (.int p2), .val (.int (0 : Int32))] [])) _
      refine XS.iloadN X3.here hx rfl (hb hby own_d4_19) rfl ?_
      exact k
    obtain ⟨fs, hr, hrun, hended, hW, hsame⟩ := X3.leave (v := some (.int (0 : Int32))) (fun h => by rw [Bd.returns] at h; cases h)
    refine ⟨_, _, pre4 _ ?_, hrun, hended, _, _, rfl, ?_, ⟨_, rfl⟩, hW, hsame.mono (by decide) (by decide)⟩
    · show Steps p.tables e below (T3.setTop (mkF m 20 #[.val (.ref a1), .val (.int p2), .val (.int (0 : Int32))] [(.int (0 : Int32))])) _
      exact retN X3 hx (t := .boolean) Bd.returns (by simp) (hb hby own_d4_20) hr
    · show own_Q4 Z a1 p2 w1 h0 n0 _ T3.heap _
      rw [e3]
      exact ⟨congrArg (fun z => some (Value.int z)) (show (0 : Int32) = (own_ne w1 p2) from own_ne0 hc5), N3, K3, E_a1, F_metBy_a1⟩
  · -- hc5 not
    obtain ⟨T5, h5, X5, e5, W5, st5⟩ := putF X1 hx hZ hown (host := "") (Or.inl (hw _ (List.mem_of_getElem? (i := 20) rfl))) Via.refl e1 F_metBy_a1 E_a1 (Or.inl (hw _ (List.mem_of_getElem? (i := 21) rfl))) (hw _ (List.mem_of_getElem? (i := 1) rfl)) (ty := .int) (by decide) rfl rfl (g := (mkF m 16 #[.val (.ref a1), .val (.int p2), .val (.int (1 : Int32))] [(.int p2), (.ref a1)])) rfl rfl (hb hby own_d4_16)
    have E_a1 := E_a1.wr W5
    have Z5 : n0 ≤ h5.size := Nat.le_trans Z0 (Keep.of_wr W5).1
    have K5 := K0.wr W5 (Or.inl (List.mem_of_getElem? (i := 0) rfl))
    have N5 := Fr.snoc X5 N0 g_a1
    have F_metBy_a1 : Fld Z h5 a1 "com/example/modelspan/modelspan/express/WalkedNode" "metBy" "I" (.int p2) := F_metBy_a1.same W5
    have pre6 : ∀ t, Steps p.tables e below (T5.setTop (mkF m 20 #[.val (.ref a1), .val (.int p2), .val (.int (1 : Int32))] [(.int (1 : Int32))])) t → Steps p.tables e below (s₁.setTop (entryFrame m #[(.ref a1), (.int p2)] 3)) t := by
      intro t k
      refine pre2 _ ?_
      show Steps p.tables e below (T1.setTop (mkF m 5 #[.val (.ref a1), .val (.int p2), .unset] [(.int p2), (.int w1)])) _
      refine XS.icmpNo X1.here hx rfl (hb hby own_d4_5) rfl (feq hc5).1 ?_
      show Steps p.tables e below (T1.setTop (mkF m 8 #[.val (.ref a1), .val (.int p2), .unset] [])) _
      refine XS.iconst X1.here hx rfl (hb hby own_d4_8) ?_
      show Steps p.tables e below (T1.setTop (mkF m 9 #[.val (.ref a1), .val (.int p2), .unset] [(.int (1 : Int32))])) _
      refine XS.goto X1.here hx rfl (pc0 := 9) (pc' := 13) rfl (hb hby own_d4_9) (by decide) (by decide) ?_
      show Steps p.tables e below (T1.setTop (mkF m 13 #[.val (.ref a1), .val (.int p2), .unset] [(.int (1 : Int32))])) _
      refine XS.istoreN X1.here hx rfl (hb hby own_d4_13) rfl (l' := #[.val (.ref a1), .val (.int p2), .val (.int (1 : Int32))]) rfl ?_
      show Steps p.tables e below (T1.setTop (mkF m 14 #[.val (.ref a1), .val (.int p2), .val (.int (1 : Int32))] [])) _
      refine XS.aloadN X1.here hx rfl (hb hby own_d4_14) rfl rfl ?_
      show Steps p.tables e below (T1.setTop (mkF m 15 #[.val (.ref a1), .val (.int p2), .val (.int (1 : Int32))] [(.ref a1)])) _
      refine XS.iloadN X1.here hx rfl (hb hby own_d4_15) rfl ?_
      show Steps p.tables e below (T1.setTop (mkF m 16 #[.val (.ref a1), .val (.int p2), .val (.int (1 : Int32))] [(.int p2), (.ref a1)])) _
      refine st5 _ ?_
      show Steps p.tables e below (T5.setTop (mkF m 19 #[.val (.ref a1), .val (.int p2), .val (.int (1 : Int32))] [])) _
      refine XS.iloadN X5.here hx rfl (hb hby own_d4_19) rfl ?_
      exact k
    obtain ⟨fs, hr, hrun, hended, hW, hsame⟩ := X5.leave (v := some (.int (1 : Int32))) (fun h => by rw [Bd.returns] at h; cases h)
    refine ⟨_, _, pre6 _ ?_, hrun, hended, _, _, rfl, ?_, ⟨_, rfl⟩, hW, hsame.mono (by decide) (by decide)⟩
    · show Steps p.tables e below (T5.setTop (mkF m 20 #[.val (.ref a1), .val (.int p2), .val (.int (1 : Int32))] [(.int (1 : Int32))])) _
      exact retN X5 hx (t := .boolean) Bd.returns (by simp) (hb hby own_d4_20) hr
    · show own_Q4 Z a1 p2 w1 h0 n0 _ T5.heap _
      rw [e5]
      exact ⟨congrArg (fun z => some (Value.int z)) (show (1 : Int32) = (own_ne w1 p2) from own_ne1 hc5), N5, K5, E_a1, F_metBy_a1⟩
theorem own_ef0 (m : MethodId) (x0 : Int32) (x1 : Int32) (x2 : Int32) (x3 : Int32) : entryFrame m #[(.int x0), (.int x1), (.int x2), (.int x3)] maxLocals = mkF m 0 #[.val (.int x0), .val (.int x1), .val (.int x2), .val (.int x3), .unset, .unset, .unset, .unset, .unset, .unset, .unset, .unset] [] := by first | (simp [entryFrame, mkF, argsToLocals, Value.category, maxLocals]; done) | rfl
def own_Q0 (Z : State) (p1 : Int32) (p2 : Int32) (p3 : Int32) (p4 : Int32) (h0 : Heap) (n0 : Nat) (v : Option Value) (h : Heap) (L : List Loc) : Prop := v = some (.int (1 : Int32)) ∧ Fr n0 L
set_option maxRecDepth 65536 in
set_option maxHeartbeats 40000000 in
theorem rm0 (l : Launch) (Z : State) (a0 : Array Value) (hw : ∀ d ∈ tables_1, d.before a0 Z = true) (ws : List Jvm.Cond) (p1 : Int32) (p2 : Int32) (p3 : Int32) (p4 : Int32) (h0 : Heap) (n0 : Nat) (Z0 : n0 ≤ h0.size)  :
    MetFree l x (head1 (Jvm.Cond.code x code maxLocals ret :: ws) room_1) (fun a U => a = #[(.int p1), (.int p2), (.int p3), (.int p4)] ∧ Z.Warmed39 U.vm ∧ U.heap = h0) (fun _ _ _ _ _ => True) (fun _ U o U' => ∃ v L, o = .returned v ∧ own_Q0 Z p1 p2 p3 p4 h0 n0 v U'.heap L ∧ FrameEnd U o U' L room_1.cells room_1.slots) := by
  refine MetFree.of_bodySF (plainFor_of_name own_pn0) hisR ?_
  intro p e s m args below meth c s₁ Bd hml0 hP hK
  obtain ⟨rfl, hZ, hh⟩ := hP
  have hx := Bd.exec
  have hby := Bd.bytes
  have hml : c.maxLocals = 12 := hml0
  have hown : s.vm.findClass "com/example/modelspan/modelspan/express/WalkedNodeMeetPinLaw" = some m.cls := findClass_of_methodNamed Bd.named
  have hnm := (name_of_methodNamed Bd.named Bd.method).1
  have X0 : Stand p l e room_1 s m #[(.int p1), (.int p2), (.int p3), (.int p4)] below meth c s₁ [] 0 0 := Stand.of_body Bd
  have e0 : s₁.heap = h0 := by rw [← hh, Bd.state]; rfl
  have N0 := Fr.nil n0
  have pre0 : ∀ t, Steps p.tables e below (s₁.setTop (mkF m 0 #[.val (.int p1), .val (.int p2), .val (.int p3), .val (.int p4), .unset, .unset, .unset, .unset, .unset, .unset, .unset, .unset] [])) t → Steps p.tables e below (s₁.setTop (entryFrame m #[(.int p1), (.int p2), (.int p3), (.int p4)] maxLocals)) t := fun t k => castTop (own_ef0 m p1 p2 p3 p4) k
  obtain ⟨w4, hw4, pre1⟩ : ∃ (w4 : Int32), (True) ∧ ∀ t, Steps p.tables e below (s₁.setTop (mkF m 11 #[.val (.int p1), .val (.int p2), .val (.int p3), .val (.int p4), .unset, .unset, .unset, .unset, .unset, .unset, .unset, .unset] [(.int w4)])) t → Steps p.tables e below (s₁.setTop (entryFrame m #[(.int p1), (.int p2), (.int p3), (.int p4)] maxLocals)) t := by
    have pre2 : ∀ t, Steps p.tables e below (s₁.setTop (mkF m 3 #[.val (.int p1), .val (.int p2), .val (.int p3), .val (.int p4), .unset, .unset, .unset, .unset, .unset, .unset, .unset, .unset] [(.int (p4 &&& (1 : Int32)))])) t → Steps p.tables e below (s₁.setTop (entryFrame m #[(.int p1), (.int p2), (.int p3), (.int p4)] maxLocals)) t := by
      intro t k
      refine pre0 _ ?_
      show Steps p.tables e below (s₁.setTop (mkF m 0 #[.val (.int p1), .val (.int p2), .val (.int p3), .val (.int p4), .unset, .unset, .unset, .unset, .unset, .unset, .unset, .unset] [])) _
      refine XS.iloadN X0.here hx rfl (hb hby at_0) rfl ?_
      show Steps p.tables e below (s₁.setTop (mkF m 1 #[.val (.int p1), .val (.int p2), .val (.int p3), .val (.int p4), .unset, .unset, .unset, .unset, .unset, .unset, .unset, .unset] [(.int p4)])) _
      refine XS.iconst X0.here hx rfl (hb hby at_1) ?_
      show Steps p.tables e below (s₁.setTop (mkF m 2 #[.val (.int p1), .val (.int p2), .val (.int p3), .val (.int p4), .unset, .unset, .unset, .unset, .unset, .unset, .unset, .unset] [(.int (1 : Int32)), (.int p4)])) _
      refine XS.iand X0.here hx rfl (hb hby at_2) rfl ?_
      exact k
    by_cases hc3 : (p4 &&& (1 : Int32)) = (0 : Int32)
    · -- hc3 
      refine ⟨p1, by trivial, fun t k => ?_⟩
      refine pre2 _ ?_
      show Steps p.tables e below (s₁.setTop (mkF m 3 #[.val (.int p1), .val (.int p2), .val (.int p3), .val (.int p4), .unset, .unset, .unset, .unset, .unset, .unset, .unset, .unset] [(.int (p4 &&& (1 : Int32)))])) _
      refine XS.ifYes X0.here hx rfl (pc0 := 3) (pc' := 10) rfl (hb hby at_3) rfl ((if0 _ _).trans (teq hc3).1) (by decide) (by decide) ?_
      show Steps p.tables e below (s₁.setTop (mkF m 10 #[.val (.int p1), .val (.int p2), .val (.int p3), .val (.int p4), .unset, .unset, .unset, .unset, .unset, .unset, .unset, .unset] [])) _
      refine XS.iloadN X0.here hx rfl (hb hby at_10) rfl ?_
      exact k
    · -- hc3 not
      refine ⟨(0 : Int32), by trivial, fun t k => ?_⟩
      refine pre2 _ ?_
      show Steps p.tables e below (s₁.setTop (mkF m 3 #[.val (.int p1), .val (.int p2), .val (.int p3), .val (.int p4), .unset, .unset, .unset, .unset, .unset, .unset, .unset, .unset] [(.int (p4 &&& (1 : Int32)))])) _
      refine XS.ifNo X0.here hx rfl (hb hby at_3) rfl ((if0 _ _).trans (feq hc3).1) ?_
      show Steps p.tables e below (s₁.setTop (mkF m 6 #[.val (.int p1), .val (.int p2), .val (.int p3), .val (.int p4), .unset, .unset, .unset, .unset, .unset, .unset, .unset, .unset] [])) _
      refine XS.iconst X0.here hx rfl (hb hby at_6) ?_
      show Steps p.tables e below (s₁.setTop (mkF m 7 #[.val (.int p1), .val (.int p2), .val (.int p3), .val (.int p4), .unset, .unset, .unset, .unset, .unset, .unset, .unset, .unset] [(.int (0 : Int32))])) _
      refine XS.goto X0.here hx rfl (pc0 := 7) (pc' := 11) rfl (hb hby at_7) (by decide) (by decide) ?_
      exact k
  have pre3 : ∀ t, Steps p.tables e below (s₁.setTop (mkF m 13 #[.val (.int p1), .val (.int p2), .val (.int p3), .val (.int p4), .val (.int w4), .unset, .unset, .unset, .unset, .unset, .unset, .unset] [])) t → Steps p.tables e below (s₁.setTop (entryFrame m #[(.int p1), (.int p2), (.int p3), (.int p4)] maxLocals)) t := by
    intro t k
    refine pre1 _ ?_
    show Steps p.tables e below (s₁.setTop (mkF m 11 #[.val (.int p1), .val (.int p2), .val (.int p3), .val (.int p4), .unset, .unset, .unset, .unset, .unset, .unset, .unset, .unset] [(.int w4)])) _
    refine XS.istore X0.here hx rfl (hb hby at_11) rfl (l' := #[.val (.int p1), .val (.int p2), .val (.int p3), .val (.int p4), .val (.int w4), .unset, .unset, .unset, .unset, .unset, .unset, .unset]) rfl ?_
    exact k
  obtain ⟨w5, hw5, pre4⟩ : ∃ (w5 : Int32), (True) ∧ ∀ t, Steps p.tables e below (s₁.setTop (mkF m 25 #[.val (.int p1), .val (.int p2), .val (.int p3), .val (.int p4), .val (.int w4), .unset, .unset, .unset, .unset, .unset, .unset, .unset] [(.int w5)])) t → Steps p.tables e below (s₁.setTop (entryFrame m #[(.int p1), (.int p2), (.int p3), (.int p4)] maxLocals)) t := by
    have pre5 : ∀ t, Steps p.tables e below (s₁.setTop (mkF m 16 #[.val (.int p1), .val (.int p2), .val (.int p3), .val (.int p4), .val (.int w4), .unset, .unset, .unset, .unset, .unset, .unset, .unset] [(.int (p4 &&& (2 : Int32)))])) t → Steps p.tables e below (s₁.setTop (entryFrame m #[(.int p1), (.int p2), (.int p3), (.int p4)] maxLocals)) t := by
      intro t k
      refine pre3 _ ?_
      show Steps p.tables e below (s₁.setTop (mkF m 13 #[.val (.int p1), .val (.int p2), .val (.int p3), .val (.int p4), .val (.int w4), .unset, .unset, .unset, .unset, .unset, .unset, .unset] [])) _
      refine XS.iloadN X0.here hx rfl (hb hby at_13) rfl ?_
      show Steps p.tables e below (s₁.setTop (mkF m 14 #[.val (.int p1), .val (.int p2), .val (.int p3), .val (.int p4), .val (.int w4), .unset, .unset, .unset, .unset, .unset, .unset, .unset] [(.int p4)])) _
      refine XS.iconst X0.here hx rfl (hb hby at_14) ?_
      show Steps p.tables e below (s₁.setTop (mkF m 15 #[.val (.int p1), .val (.int p2), .val (.int p3), .val (.int p4), .val (.int w4), .unset, .unset, .unset, .unset, .unset, .unset, .unset] [(.int (2 : Int32)), (.int p4)])) _
      refine XS.iand X0.here hx rfl (hb hby at_15) rfl ?_
      exact k
    by_cases hc16 : (p4 &&& (2 : Int32)) = (0 : Int32)
    · -- hc16 
      refine ⟨p2, by trivial, fun t k => ?_⟩
      refine pre5 _ ?_
      show Steps p.tables e below (s₁.setTop (mkF m 16 #[.val (.int p1), .val (.int p2), .val (.int p3), .val (.int p4), .val (.int w4), .unset, .unset, .unset, .unset, .unset, .unset, .unset] [(.int (p4 &&& (2 : Int32)))])) _
      refine XS.ifYes X0.here hx rfl (pc0 := 16) (pc' := 24) rfl (hb hby at_16) rfl ((if0 _ _).trans (teq hc16).1) (by decide) (by decide) ?_
      show Steps p.tables e below (s₁.setTop (mkF m 24 #[.val (.int p1), .val (.int p2), .val (.int p3), .val (.int p4), .val (.int w4), .unset, .unset, .unset, .unset, .unset, .unset, .unset] [])) _
      refine XS.iloadN X0.here hx rfl (hb hby at_24) rfl ?_
      exact k
    · -- hc16 not
      refine ⟨w4, by trivial, fun t k => ?_⟩
      refine pre5 _ ?_
      show Steps p.tables e below (s₁.setTop (mkF m 16 #[.val (.int p1), .val (.int p2), .val (.int p3), .val (.int p4), .val (.int w4), .unset, .unset, .unset, .unset, .unset, .unset, .unset] [(.int (p4 &&& (2 : Int32)))])) _
      refine XS.ifNo X0.here hx rfl (hb hby at_16) rfl ((if0 _ _).trans (feq hc16).1) ?_
      show Steps p.tables e below (s₁.setTop (mkF m 19 #[.val (.int p1), .val (.int p2), .val (.int p3), .val (.int p4), .val (.int w4), .unset, .unset, .unset, .unset, .unset, .unset, .unset] [])) _
      refine XS.iload X0.here hx rfl (hb hby at_19) rfl ?_
      show Steps p.tables e below (s₁.setTop (mkF m 21 #[.val (.int p1), .val (.int p2), .val (.int p3), .val (.int p4), .val (.int w4), .unset, .unset, .unset, .unset, .unset, .unset, .unset] [(.int w4)])) _
      refine XS.goto X0.here hx rfl (pc0 := 21) (pc' := 25) rfl (hb hby at_21) (by decide) (by decide) ?_
      exact k
  have pre6 : ∀ t, Steps p.tables e below (s₁.setTop (mkF m 27 #[.val (.int p1), .val (.int p2), .val (.int p3), .val (.int p4), .val (.int w4), .val (.int w5), .unset, .unset, .unset, .unset, .unset, .unset] [])) t → Steps p.tables e below (s₁.setTop (entryFrame m #[(.int p1), (.int p2), (.int p3), (.int p4)] maxLocals)) t := by
    intro t k
    refine pre4 _ ?_
    show Steps p.tables e below (s₁.setTop (mkF m 25 #[.val (.int p1), .val (.int p2), .val (.int p3), .val (.int p4), .val (.int w4), .unset, .unset, .unset, .unset, .unset, .unset, .unset] [(.int w5)])) _
    refine XS.istore X0.here hx rfl (hb hby at_25) rfl (l' := #[.val (.int p1), .val (.int p2), .val (.int p3), .val (.int p4), .val (.int w4), .val (.int w5), .unset, .unset, .unset, .unset, .unset, .unset]) rfl ?_
    exact k
  obtain ⟨w6, hw6, pre7⟩ : ∃ (w6 : Int32), (True) ∧ ∀ t, Steps p.tables e below (s₁.setTop (mkF m 51 #[.val (.int p1), .val (.int p2), .val (.int p3), .val (.int p4), .val (.int w4), .val (.int w5), .unset, .unset, .unset, .unset, .unset, .unset] [(.int w6)])) t → Steps p.tables e below (s₁.setTop (entryFrame m #[(.int p1), (.int p2), (.int p3), (.int p4)] maxLocals)) t := by
    have pre8 : ∀ t, Steps p.tables e below (s₁.setTop (mkF m 30 #[.val (.int p1), .val (.int p2), .val (.int p3), .val (.int p4), .val (.int w4), .val (.int w5), .unset, .unset, .unset, .unset, .unset, .unset] [(.int (p4 &&& (4 : Int32)))])) t → Steps p.tables e below (s₁.setTop (entryFrame m #[(.int p1), (.int p2), (.int p3), (.int p4)] maxLocals)) t := by
      intro t k
      refine pre6 _ ?_
      show Steps p.tables e below (s₁.setTop (mkF m 27 #[.val (.int p1), .val (.int p2), .val (.int p3), .val (.int p4), .val (.int w4), .val (.int w5), .unset, .unset, .unset, .unset, .unset, .unset] [])) _
      refine XS.iloadN X0.here hx rfl (hb hby at_27) rfl ?_
      show Steps p.tables e below (s₁.setTop (mkF m 28 #[.val (.int p1), .val (.int p2), .val (.int p3), .val (.int p4), .val (.int w4), .val (.int w5), .unset, .unset, .unset, .unset, .unset, .unset] [(.int p4)])) _
      refine XS.iconst X0.here hx rfl (hb hby at_28) ?_
      show Steps p.tables e below (s₁.setTop (mkF m 29 #[.val (.int p1), .val (.int p2), .val (.int p3), .val (.int p4), .val (.int w4), .val (.int w5), .unset, .unset, .unset, .unset, .unset, .unset] [(.int (4 : Int32)), (.int p4)])) _
      refine XS.iand X0.here hx rfl (hb hby at_29) rfl ?_
      exact k
    by_cases hc30 : (p4 &&& (4 : Int32)) = (0 : Int32)
    · -- hc30 
      have pre9 : ∀ t, Steps p.tables e below (s₁.setTop (mkF m 42 #[.val (.int p1), .val (.int p2), .val (.int p3), .val (.int p4), .val (.int w4), .val (.int w5), .unset, .unset, .unset, .unset, .unset, .unset] [(.int (p4 &&& (8 : Int32)))])) t → Steps p.tables e below (s₁.setTop (entryFrame m #[(.int p1), (.int p2), (.int p3), (.int p4)] maxLocals)) t := by
        intro t k
        refine pre8 _ ?_
        show Steps p.tables e below (s₁.setTop (mkF m 30 #[.val (.int p1), .val (.int p2), .val (.int p3), .val (.int p4), .val (.int w4), .val (.int w5), .unset, .unset, .unset, .unset, .unset, .unset] [(.int (p4 &&& (4 : Int32)))])) _
        refine XS.ifYes X0.here hx rfl (pc0 := 30) (pc' := 38) rfl (hb hby at_30) rfl ((if0 _ _).trans (teq hc30).1) (by decide) (by decide) ?_
        show Steps p.tables e below (s₁.setTop (mkF m 38 #[.val (.int p1), .val (.int p2), .val (.int p3), .val (.int p4), .val (.int w4), .val (.int w5), .unset, .unset, .unset, .unset, .unset, .unset] [])) _
        refine XS.iloadN X0.here hx rfl (hb hby at_38) rfl ?_
        show Steps p.tables e below (s₁.setTop (mkF m 39 #[.val (.int p1), .val (.int p2), .val (.int p3), .val (.int p4), .val (.int w4), .val (.int w5), .unset, .unset, .unset, .unset, .unset, .unset] [(.int p4)])) _
        refine XS.bipush X0.here hx rfl (hb hby at_39) ?_
        show Steps p.tables e below (s₁.setTop (mkF m 41 #[.val (.int p1), .val (.int p2), .val (.int p3), .val (.int p4), .val (.int w4), .val (.int w5), .unset, .unset, .unset, .unset, .unset, .unset] [(.int (8 : Int32)), (.int p4)])) _
        refine XS.iand X0.here hx rfl (hb hby at_41) rfl ?_
        exact k
      by_cases hc42 : (p4 &&& (8 : Int32)) = (0 : Int32)
      · -- hc42 
        refine ⟨p3, by trivial, fun t k => ?_⟩
        refine pre9 _ ?_
        show Steps p.tables e below (s₁.setTop (mkF m 42 #[.val (.int p1), .val (.int p2), .val (.int p3), .val (.int p4), .val (.int w4), .val (.int w5), .unset, .unset, .unset, .unset, .unset, .unset] [(.int (p4 &&& (8 : Int32)))])) _
        refine XS.ifYes X0.here hx rfl (pc0 := 42) (pc' := 50) rfl (hb hby at_42) rfl ((if0 _ _).trans (teq hc42).1) (by decide) (by decide) ?_
        show Steps p.tables e below (s₁.setTop (mkF m 50 #[.val (.int p1), .val (.int p2), .val (.int p3), .val (.int p4), .val (.int w4), .val (.int w5), .unset, .unset, .unset, .unset, .unset, .unset] [])) _
        refine XS.iloadN X0.here hx rfl (hb hby at_50) rfl ?_
        exact k
      · -- hc42 not
        refine ⟨w4, by trivial, fun t k => ?_⟩
        refine pre9 _ ?_
        show Steps p.tables e below (s₁.setTop (mkF m 42 #[.val (.int p1), .val (.int p2), .val (.int p3), .val (.int p4), .val (.int w4), .val (.int w5), .unset, .unset, .unset, .unset, .unset, .unset] [(.int (p4 &&& (8 : Int32)))])) _
        refine XS.ifNo X0.here hx rfl (hb hby at_42) rfl ((if0 _ _).trans (feq hc42).1) ?_
        show Steps p.tables e below (s₁.setTop (mkF m 45 #[.val (.int p1), .val (.int p2), .val (.int p3), .val (.int p4), .val (.int w4), .val (.int w5), .unset, .unset, .unset, .unset, .unset, .unset] [])) _
        refine XS.iload X0.here hx rfl (hb hby at_45) rfl ?_
        show Steps p.tables e below (s₁.setTop (mkF m 47 #[.val (.int p1), .val (.int p2), .val (.int p3), .val (.int p4), .val (.int w4), .val (.int w5), .unset, .unset, .unset, .unset, .unset, .unset] [(.int w4)])) _
        refine XS.goto X0.here hx rfl (pc0 := 47) (pc' := 51) rfl (hb hby at_47) (by decide) (by decide) ?_
        exact k
    · -- hc30 not
      refine ⟨w5, by trivial, fun t k => ?_⟩
      refine pre8 _ ?_
      show Steps p.tables e below (s₁.setTop (mkF m 30 #[.val (.int p1), .val (.int p2), .val (.int p3), .val (.int p4), .val (.int w4), .val (.int w5), .unset, .unset, .unset, .unset, .unset, .unset] [(.int (p4 &&& (4 : Int32)))])) _
      refine XS.ifNo X0.here hx rfl (hb hby at_30) rfl ((if0 _ _).trans (feq hc30).1) ?_
      show Steps p.tables e below (s₁.setTop (mkF m 33 #[.val (.int p1), .val (.int p2), .val (.int p3), .val (.int p4), .val (.int w4), .val (.int w5), .unset, .unset, .unset, .unset, .unset, .unset] [])) _
      refine XS.iload X0.here hx rfl (hb hby at_33) rfl ?_
      show Steps p.tables e below (s₁.setTop (mkF m 35 #[.val (.int p1), .val (.int p2), .val (.int p3), .val (.int p4), .val (.int w4), .val (.int w5), .unset, .unset, .unset, .unset, .unset, .unset] [(.int w5)])) _
      refine XS.goto X0.here hx rfl (pc0 := 35) (pc' := 51) rfl (hb hby at_35) (by decide) (by decide) ?_
      exact k
  obtain ⟨T10, h10, X10, e10, E10, A10, D10, -, st10⟩ := newO X0 hx hZ hown (hw _ (List.mem_of_getElem? (i := 0) rfl)) (hw _ (List.mem_of_getElem? (i := 1) rfl)) (hw _ (List.mem_of_getElem? (i := 2) rfl)) e0 (g := (mkF m 53 #[.val (.int p1), .val (.int p2), .val (.int p3), .val (.int p4), .val (.int w4), .val (.int w5), .val (.int w6), .unset, .unset, .unset, .unset, .unset] [])) rfl (hb hby at_53) (by decide) (by decide)
  obtain ⟨b10, g10⟩ : ∃ z, z = h0.size := ⟨_, rfl⟩
  rw [← g10] at A10 D10 st10
  have g_b10 : n0 ≤ b10 := Nat.le_trans Z0 (Nat.le_of_eq g10.symm)
  have Z10 : n0 ≤ h10.size := Nat.le_trans Z0 E10.1
  have E_b10 : Exa Z h10 b10 "com/example/modelspan/modelspan/express/WalkedNodeMeetPinLaw" := A10
  have F_metBy_b10 : Fld Z h10 b10 "com/example/modelspan/modelspan/express/WalkedNode" "metBy" "I" (.int (0 : Int32)) := D10 (Or.inl (hw _ (List.mem_of_getElem? (i := 21) rfl))) (ty := .int) (by decide)
  obtain ⟨_, _, ⟨T11, L11, k11, n11⟩, -, X11, ⟨Lc11, hQ11, l11, y11, z11⟩, st11⟩ := X10.specialBack hx (y := (⟨"com/example/modelspan/modelspan/express/WalkedNodeMeetPinLaw", "<init>", "()V"⟩ : MethodName)) rfl hown (mvT hZ (hw _ (List.mem_of_getElem? (i := 3) rfl))) (mvT hZ (hw _ (List.mem_of_getElem? (i := 4) rfl))) (mvT hZ (hw _ (List.mem_of_getElem? (i := 5) rfl))) (by decide) (backOf (W := 1) (rm1 l Z a0 hw [] b10  h10 n0 Z10 ) hZ (hw _ (List.mem_of_getElem? (i := 5) rfl)) (hw _ (List.mem_of_getElem? (i := 2) rfl)) (by decide) (by decide)) (g := (mkF m 57 #[.val (.int p1), .val (.int p2), .val (.int p3), .val (.int p4), .val (.int w4), .val (.int w5), .val (.int w6), .unset, .unset, .unset, .unset, .unset] [(.ref b10), (.ref b10)])) rfl (by rw [hml]; rfl) (Steps.refl _) (a := b10) (argsL := []) (rest := [(.ref b10)]) (lenOf own_pd0 rfl) rfl (by show 2 * 0 + _ ≤ _; exact Nat.le_of_eq rfl) (hb hby at_57) (fun _ _ => ⟨rfl, e10, (by decide : 1 + 0 ≤ _), (by decide : 1 + 0 ≤ _)⟩)
  dsimp only [Pt.U, Pt.locs, Pt.cells, Pt.slots] at X11 l11 y11 z11 st11 hQ11
  subst l11 y11 z11
  obtain ⟨rfl, N11q, e11⟩ := hQ11
  have N11 := Fr.app N0 N11q
  obtain ⟨cq12, kq12, q12a, q12b, q12c⟩ := isOf hZ e11 E_b10
  obtain ⟨_, _, ⟨T12, L12, k12, n12⟩, -, X12, ⟨Lc12, hQ12, l12, y12, z12⟩, st12⟩ := X11.virtualBackUp hx (owner := "com/example/modelspan/modelspan/express/WalkedNode") (x := (⟨"com/example/modelspan/modelspan/express/WalkedNodeMeetPinLaw", "meet", "(I)Z"⟩ : MethodName)) (y := (⟨"com/example/modelspan/modelspan/express/WalkedNode", "meet", "(I)Z"⟩ : MethodName)) hown (mvT hZ (hw _ (List.mem_of_getElem? (i := 14) rfl))) (mvT hZ (hw _ (List.mem_of_getElem? (i := 15) rfl))) (mvT hZ (hw _ (List.mem_of_getElem? (i := 16) rfl))) (by decide) (mvT hZ (hw _ (List.mem_of_getElem? (i := 18) rfl))) (mvT hZ (hw _ (List.mem_of_getElem? (i := 17) rfl))) (backOf (W := 0) (rm4 l Z a0 hw [] b10 w4 ((0 : Int32)) h10 n0 Z10 E_b10 F_metBy_b10 g_b10) hZ (hw _ (List.mem_of_getElem? (i := 19) rfl)) (hw _ (List.mem_of_getElem? (i := 9) rfl)) (by decide) (by decide)) q12a q12c (g := (mkF m 66 #[.val (.int p1), .val (.int p2), .val (.int p3), .val (.int p4), .val (.int w4), .val (.int w5), .val (.int w6), .val (.ref b10), .unset, .unset, .unset, .unset] [(.int w4), (.ref b10)])) rfl (by rw [hml]; rfl) (Steps.refl _) (argsL := [(.int w4)]) (rest := []) (lenOf own_pd1 rfl) rfl (by show 2 * 0 + _ ≤ _; exact Nat.le_of_eq rfl) (hb hby at_66) (fun _ _ => ⟨rfl, e11, (by decide : 1 + 0 ≤ _), (by decide : 1 + 0 ≤ _)⟩)
  dsimp only [Pt.U, Pt.locs, Pt.cells, Pt.slots] at X12 l12 y12 z12 st12 hQ12
  subst l12 y12 z12
  obtain ⟨rfl, N12q, Kq12, P12_0, P12_1⟩ := hQ12
  have N12 := Fr.app N11 N12q
  have E_b10 := P12_0
  have F_metBy_b10 := P12_1
  have Z12 : n0 ≤ T12.heap.size := Nat.le_trans Z10 Kq12.1
  obtain ⟨cq13, kq13, q13a, q13b, q13c⟩ := isOf hZ rfl E_b10
  obtain ⟨_, _, ⟨T13, L13, k13, n13⟩, -, X13, ⟨Lc13, hQ13, l13, y13, z13⟩, st13⟩ := X12.virtualBackUp hx (owner := "com/example/modelspan/modelspan/express/WalkedNode") (x := (⟨"com/example/modelspan/modelspan/express/WalkedNodeMeetPinLaw", "meet", "(I)Z"⟩ : MethodName)) (y := (⟨"com/example/modelspan/modelspan/express/WalkedNode", "meet", "(I)Z"⟩ : MethodName)) hown (mvT hZ (hw _ (List.mem_of_getElem? (i := 14) rfl))) (mvT hZ (hw _ (List.mem_of_getElem? (i := 15) rfl))) (mvT hZ (hw _ (List.mem_of_getElem? (i := 16) rfl))) (by decide) (mvT hZ (hw _ (List.mem_of_getElem? (i := 18) rfl))) (mvT hZ (hw _ (List.mem_of_getElem? (i := 17) rfl))) (backOf (W := 0) (rm4 l Z a0 hw [] b10 w5 w4 T12.heap n0 Z12 E_b10 F_metBy_b10 g_b10) hZ (hw _ (List.mem_of_getElem? (i := 19) rfl)) (hw _ (List.mem_of_getElem? (i := 9) rfl)) (by decide) (by decide)) q13a q13c (g := (mkF m 75 #[.val (.int p1), .val (.int p2), .val (.int p3), .val (.int p4), .val (.int w4), .val (.int w5), .val (.int w6), .val (.ref b10), .val (.int (own_ne (0 : Int32) w4)), .unset, .unset, .unset] [(.int w5), (.ref b10)])) rfl (by rw [hml]; rfl) (Steps.refl _) (argsL := [(.int w5)]) (rest := []) (lenOf own_pd1 rfl) rfl (by show 2 * 0 + _ ≤ _; exact Nat.le_of_eq rfl) (hb hby at_75) (fun _ _ => ⟨rfl, rfl, (by decide : 1 + 0 ≤ _), (by decide : 1 + 0 ≤ _)⟩)
  dsimp only [Pt.U, Pt.locs, Pt.cells, Pt.slots] at X13 l13 y13 z13 st13 hQ13
  subst l13 y13 z13
  obtain ⟨rfl, N13q, Kq13, P13_0, P13_1⟩ := hQ13
  have N13 := Fr.app N12 N13q
  have E_b10 := P13_0
  have F_metBy_b10 := P13_1
  have Z13 : n0 ≤ T13.heap.size := Nat.le_trans Z12 Kq13.1
  obtain ⟨cq14, kq14, q14a, q14b, q14c⟩ := isOf hZ rfl E_b10
  obtain ⟨_, _, ⟨T14, L14, k14, n14⟩, -, X14, ⟨Lc14, hQ14, l14, y14, z14⟩, st14⟩ := X13.virtualBackUp hx (owner := "com/example/modelspan/modelspan/express/WalkedNode") (x := (⟨"com/example/modelspan/modelspan/express/WalkedNodeMeetPinLaw", "meet", "(I)Z"⟩ : MethodName)) (y := (⟨"com/example/modelspan/modelspan/express/WalkedNode", "meet", "(I)Z"⟩ : MethodName)) hown (mvT hZ (hw _ (List.mem_of_getElem? (i := 14) rfl))) (mvT hZ (hw _ (List.mem_of_getElem? (i := 15) rfl))) (mvT hZ (hw _ (List.mem_of_getElem? (i := 16) rfl))) (by decide) (mvT hZ (hw _ (List.mem_of_getElem? (i := 18) rfl))) (mvT hZ (hw _ (List.mem_of_getElem? (i := 17) rfl))) (backOf (W := 0) (rm4 l Z a0 hw [] b10 w6 w5 T13.heap n0 Z13 E_b10 F_metBy_b10 g_b10) hZ (hw _ (List.mem_of_getElem? (i := 19) rfl)) (hw _ (List.mem_of_getElem? (i := 9) rfl)) (by decide) (by decide)) q14a q14c (g := (mkF m 84 #[.val (.int p1), .val (.int p2), .val (.int p3), .val (.int p4), .val (.int w4), .val (.int w5), .val (.int w6), .val (.ref b10), .val (.int (own_ne (0 : Int32) w4)), .val (.int (own_ne w4 w5)), .unset, .unset] [(.int w6), (.ref b10)])) rfl (by rw [hml]; rfl) (Steps.refl _) (argsL := [(.int w6)]) (rest := []) (lenOf own_pd1 rfl) rfl (by show 2 * 0 + _ ≤ _; exact Nat.le_of_eq rfl) (hb hby at_84) (fun _ _ => ⟨rfl, rfl, (by decide : 1 + 0 ≤ _), (by decide : 1 + 0 ≤ _)⟩)
  dsimp only [Pt.U, Pt.locs, Pt.cells, Pt.slots] at X14 l14 y14 z14 st14 hQ14
  subst l14 y14 z14
  obtain ⟨rfl, N14q, Kq14, P14_0, P14_1⟩ := hQ14
  have N14 := Fr.app N13 N14q
  have E_b10 := P14_0
  have F_metBy_b10 := P14_1
  have Z14 : n0 ≤ T14.heap.size := Nat.le_trans Z13 Kq14.1
  obtain ⟨cq15, kq15, q15a, q15b, q15c⟩ := isOf hZ rfl E_b10
  obtain ⟨_, _, ⟨T15, L15, k15, n15⟩, -, X15, ⟨Lc15, hQ15, l15, y15, z15⟩, st15⟩ := X14.virtualBackUp hx (owner := "com/example/modelspan/modelspan/express/WalkedNode") (x := (⟨"com/example/modelspan/modelspan/express/WalkedNodeMeetPinLaw", "meet", "(I)Z"⟩ : MethodName)) (y := (⟨"com/example/modelspan/modelspan/express/WalkedNode", "meet", "(I)Z"⟩ : MethodName)) hown (mvT hZ (hw _ (List.mem_of_getElem? (i := 14) rfl))) (mvT hZ (hw _ (List.mem_of_getElem? (i := 15) rfl))) (mvT hZ (hw _ (List.mem_of_getElem? (i := 16) rfl))) (by decide) (mvT hZ (hw _ (List.mem_of_getElem? (i := 18) rfl))) (mvT hZ (hw _ (List.mem_of_getElem? (i := 17) rfl))) (backOf (W := 0) (rm4 l Z a0 hw [] b10 w6 w6 T14.heap n0 Z14 E_b10 F_metBy_b10 g_b10) hZ (hw _ (List.mem_of_getElem? (i := 19) rfl)) (hw _ (List.mem_of_getElem? (i := 9) rfl)) (by decide) (by decide)) q15a q15c (g := (mkF m 93 #[.val (.int p1), .val (.int p2), .val (.int p3), .val (.int p4), .val (.int w4), .val (.int w5), .val (.int w6), .val (.ref b10), .val (.int (own_ne (0 : Int32) w4)), .val (.int (own_ne w4 w5)), .val (.int (own_ne w5 w6)), .unset] [(.int w6), (.ref b10)])) rfl (by rw [hml]; rfl) (Steps.refl _) (argsL := [(.int w6)]) (rest := []) (lenOf own_pd1 rfl) rfl (by show 2 * 0 + _ ≤ _; exact Nat.le_of_eq rfl) (hb hby at_93) (fun _ _ => ⟨rfl, rfl, (by decide : 1 + 0 ≤ _), (by decide : 1 + 0 ≤ _)⟩)
  dsimp only [Pt.U, Pt.locs, Pt.cells, Pt.slots] at X15 l15 y15 z15 st15 hQ15
  subst l15 y15 z15
  obtain ⟨rfl, N15q, Kq15, P15_0, P15_1⟩ := hQ15
  have N15 := Fr.app N14 N15q
  have E_b10 := P15_0
  have F_metBy_b10 := P15_1
  have Z15 : n0 ≤ T15.heap.size := Nat.le_trans Z14 Kq15.1
  have pre16 : ∀ t, Steps p.tables e below (T15.setTop (mkF m 100 #[.val (.int p1), .val (.int p2), .val (.int p3), .val (.int p4), .val (.int w4), .val (.int w5), .val (.int w6), .val (.ref b10), .val (.int (own_ne (0 : Int32) w4)), .val (.int (own_ne w4 w5)), .val (.int (own_ne w5 w6)), .val (.int (own_ne w6 w6))] [(.int (own_ne (0 : Int32) w4))])) t → Steps p.tables e below (s₁.setTop (entryFrame m #[(.int p1), (.int p2), (.int p3), (.int p4)] maxLocals)) t := by
    intro t k
    refine pre7 _ ?_
    show Steps p.tables e below (s₁.setTop (mkF m 51 #[.val (.int p1), .val (.int p2), .val (.int p3), .val (.int p4), .val (.int w4), .val (.int w5), .unset, .unset, .unset, .unset, .unset, .unset] [(.int w6)])) _
    refine XS.istore X0.here hx rfl (hb hby at_51) rfl (l' := #[.val (.int p1), .val (.int p2), .val (.int p3), .val (.int p4), .val (.int w4), .val (.int w5), .val (.int w6), .unset, .unset, .unset, .unset, .unset]) rfl ?_
    show Steps p.tables e below (s₁.setTop (mkF m 53 #[.val (.int p1), .val (.int p2), .val (.int p3), .val (.int p4), .val (.int w4), .val (.int w5), .val (.int w6), .unset, .unset, .unset, .unset, .unset] [])) _
    refine st10 _ ?_
    show Steps p.tables e below (T10.setTop (mkF m 56 #[.val (.int p1), .val (.int p2), .val (.int p3), .val (.int p4), .val (.int w4), .val (.int w5), .val (.int w6), .unset, .unset, .unset, .unset, .unset] [(.ref b10)])) _
    refine XS.dup X10.here hx rfl (hb hby at_56) rfl rfl ?_
    show Steps p.tables e below (T10.setTop (mkF m 57 #[.val (.int p1), .val (.int p2), .val (.int p3), .val (.int p4), .val (.int w4), .val (.int w5), .val (.int w6), .unset, .unset, .unset, .unset, .unset] [(.ref b10), (.ref b10)])) _
    refine st11.trans ?_
    show Steps p.tables e below (T11.setTop (mkF m 60 #[.val (.int p1), .val (.int p2), .val (.int p3), .val (.int p4), .val (.int w4), .val (.int w5), .val (.int w6), .unset, .unset, .unset, .unset, .unset] [(.ref b10)])) _
    refine XS.astore X11.here hx rfl (hb hby at_60) rfl rfl (l' := #[.val (.int p1), .val (.int p2), .val (.int p3), .val (.int p4), .val (.int w4), .val (.int w5), .val (.int w6), .val (.ref b10), .unset, .unset, .unset, .unset]) rfl ?_
    show Steps p.tables e below (T11.setTop (mkF m 62 #[.val (.int p1), .val (.int p2), .val (.int p3), .val (.int p4), .val (.int w4), .val (.int w5), .val (.int w6), .val (.ref b10), .unset, .unset, .unset, .unset] [])) _
    refine XS.aload X11.here hx rfl (hb hby at_62) rfl rfl ?_
    show Steps p.tables e below (T11.setTop (mkF m 64 #[.val (.int p1), .val (.int p2), .val (.int p3), .val (.int p4), .val (.int w4), .val (.int w5), .val (.int w6), .val (.ref b10), .unset, .unset, .unset, .unset] [(.ref b10)])) _
    refine XS.iload X11.here hx rfl (hb hby at_64) rfl ?_
    show Steps p.tables e below (T11.setTop (mkF m 66 #[.val (.int p1), .val (.int p2), .val (.int p3), .val (.int p4), .val (.int w4), .val (.int w5), .val (.int w6), .val (.ref b10), .unset, .unset, .unset, .unset] [(.int w4), (.ref b10)])) _
    refine st12.trans ?_
    show Steps p.tables e below (T12.setTop (mkF m 69 #[.val (.int p1), .val (.int p2), .val (.int p3), .val (.int p4), .val (.int w4), .val (.int w5), .val (.int w6), .val (.ref b10), .unset, .unset, .unset, .unset] [(.int (own_ne (0 : Int32) w4))])) _
    refine XS.istore X12.here hx rfl (hb hby at_69) rfl (l' := #[.val (.int p1), .val (.int p2), .val (.int p3), .val (.int p4), .val (.int w4), .val (.int w5), .val (.int w6), .val (.ref b10), .val (.int (own_ne (0 : Int32) w4)), .unset, .unset, .unset]) rfl ?_
    show Steps p.tables e below (T12.setTop (mkF m 71 #[.val (.int p1), .val (.int p2), .val (.int p3), .val (.int p4), .val (.int w4), .val (.int w5), .val (.int w6), .val (.ref b10), .val (.int (own_ne (0 : Int32) w4)), .unset, .unset, .unset] [])) _
    refine XS.aload X12.here hx rfl (hb hby at_71) rfl rfl ?_
    show Steps p.tables e below (T12.setTop (mkF m 73 #[.val (.int p1), .val (.int p2), .val (.int p3), .val (.int p4), .val (.int w4), .val (.int w5), .val (.int w6), .val (.ref b10), .val (.int (own_ne (0 : Int32) w4)), .unset, .unset, .unset] [(.ref b10)])) _
    refine XS.iload X12.here hx rfl (hb hby at_73) rfl ?_
    show Steps p.tables e below (T12.setTop (mkF m 75 #[.val (.int p1), .val (.int p2), .val (.int p3), .val (.int p4), .val (.int w4), .val (.int w5), .val (.int w6), .val (.ref b10), .val (.int (own_ne (0 : Int32) w4)), .unset, .unset, .unset] [(.int w5), (.ref b10)])) _
    refine st13.trans ?_
    show Steps p.tables e below (T13.setTop (mkF m 78 #[.val (.int p1), .val (.int p2), .val (.int p3), .val (.int p4), .val (.int w4), .val (.int w5), .val (.int w6), .val (.ref b10), .val (.int (own_ne (0 : Int32) w4)), .unset, .unset, .unset] [(.int (own_ne w4 w5))])) _
    refine XS.istore X13.here hx rfl (hb hby at_78) rfl (l' := #[.val (.int p1), .val (.int p2), .val (.int p3), .val (.int p4), .val (.int w4), .val (.int w5), .val (.int w6), .val (.ref b10), .val (.int (own_ne (0 : Int32) w4)), .val (.int (own_ne w4 w5)), .unset, .unset]) rfl ?_
    show Steps p.tables e below (T13.setTop (mkF m 80 #[.val (.int p1), .val (.int p2), .val (.int p3), .val (.int p4), .val (.int w4), .val (.int w5), .val (.int w6), .val (.ref b10), .val (.int (own_ne (0 : Int32) w4)), .val (.int (own_ne w4 w5)), .unset, .unset] [])) _
    refine XS.aload X13.here hx rfl (hb hby at_80) rfl rfl ?_
    show Steps p.tables e below (T13.setTop (mkF m 82 #[.val (.int p1), .val (.int p2), .val (.int p3), .val (.int p4), .val (.int w4), .val (.int w5), .val (.int w6), .val (.ref b10), .val (.int (own_ne (0 : Int32) w4)), .val (.int (own_ne w4 w5)), .unset, .unset] [(.ref b10)])) _
    refine XS.iload X13.here hx rfl (hb hby at_82) rfl ?_
    show Steps p.tables e below (T13.setTop (mkF m 84 #[.val (.int p1), .val (.int p2), .val (.int p3), .val (.int p4), .val (.int w4), .val (.int w5), .val (.int w6), .val (.ref b10), .val (.int (own_ne (0 : Int32) w4)), .val (.int (own_ne w4 w5)), .unset, .unset] [(.int w6), (.ref b10)])) _
    refine st14.trans ?_
    show Steps p.tables e below (T14.setTop (mkF m 87 #[.val (.int p1), .val (.int p2), .val (.int p3), .val (.int p4), .val (.int w4), .val (.int w5), .val (.int w6), .val (.ref b10), .val (.int (own_ne (0 : Int32) w4)), .val (.int (own_ne w4 w5)), .unset, .unset] [(.int (own_ne w5 w6))])) _
    refine XS.istore X14.here hx rfl (hb hby at_87) rfl (l' := #[.val (.int p1), .val (.int p2), .val (.int p3), .val (.int p4), .val (.int w4), .val (.int w5), .val (.int w6), .val (.ref b10), .val (.int (own_ne (0 : Int32) w4)), .val (.int (own_ne w4 w5)), .val (.int (own_ne w5 w6)), .unset]) rfl ?_
    show Steps p.tables e below (T14.setTop (mkF m 89 #[.val (.int p1), .val (.int p2), .val (.int p3), .val (.int p4), .val (.int w4), .val (.int w5), .val (.int w6), .val (.ref b10), .val (.int (own_ne (0 : Int32) w4)), .val (.int (own_ne w4 w5)), .val (.int (own_ne w5 w6)), .unset] [])) _
    refine XS.aload X14.here hx rfl (hb hby at_89) rfl rfl ?_
    show Steps p.tables e below (T14.setTop (mkF m 91 #[.val (.int p1), .val (.int p2), .val (.int p3), .val (.int p4), .val (.int w4), .val (.int w5), .val (.int w6), .val (.ref b10), .val (.int (own_ne (0 : Int32) w4)), .val (.int (own_ne w4 w5)), .val (.int (own_ne w5 w6)), .unset] [(.ref b10)])) _
    refine XS.iload X14.here hx rfl (hb hby at_91) rfl ?_
    show Steps p.tables e below (T14.setTop (mkF m 93 #[.val (.int p1), .val (.int p2), .val (.int p3), .val (.int p4), .val (.int w4), .val (.int w5), .val (.int w6), .val (.ref b10), .val (.int (own_ne (0 : Int32) w4)), .val (.int (own_ne w4 w5)), .val (.int (own_ne w5 w6)), .unset] [(.int w6), (.ref b10)])) _
    refine st15.trans ?_
    show Steps p.tables e below (T15.setTop (mkF m 96 #[.val (.int p1), .val (.int p2), .val (.int p3), .val (.int p4), .val (.int w4), .val (.int w5), .val (.int w6), .val (.ref b10), .val (.int (own_ne (0 : Int32) w4)), .val (.int (own_ne w4 w5)), .val (.int (own_ne w5 w6)), .unset] [(.int (own_ne w6 w6))])) _
    refine XS.istore X15.here hx rfl (hb hby at_96) rfl (l' := #[.val (.int p1), .val (.int p2), .val (.int p3), .val (.int p4), .val (.int w4), .val (.int w5), .val (.int w6), .val (.ref b10), .val (.int (own_ne (0 : Int32) w4)), .val (.int (own_ne w4 w5)), .val (.int (own_ne w5 w6)), .val (.int (own_ne w6 w6))]) rfl ?_
    show Steps p.tables e below (T15.setTop (mkF m 98 #[.val (.int p1), .val (.int p2), .val (.int p3), .val (.int p4), .val (.int w4), .val (.int w5), .val (.int w6), .val (.ref b10), .val (.int (own_ne (0 : Int32) w4)), .val (.int (own_ne w4 w5)), .val (.int (own_ne w5 w6)), .val (.int (own_ne w6 w6))] [])) _
    refine XS.iload X15.here hx rfl (hb hby at_98) rfl ?_
    exact k
  obtain ⟨w110, hw110, pre17⟩ : ∃ (w110 : Int32), (w110 = own_ne w4 0) ∧ ∀ t, Steps p.tables e below (T15.setTop (mkF m 110 #[.val (.int p1), .val (.int p2), .val (.int p3), .val (.int p4), .val (.int w4), .val (.int w5), .val (.int w6), .val (.ref b10), .val (.int (own_ne (0 : Int32) w4)), .val (.int (own_ne w4 w5)), .val (.int (own_ne w5 w6)), .val (.int (own_ne w6 w6))] [(.int w110), (.int (own_ne (0 : Int32) w4))])) t → Steps p.tables e below (s₁.setTop (entryFrame m #[(.int p1), (.int p2), (.int p3), (.int p4)] maxLocals)) t := by
    have pre18 : ∀ t, Steps p.tables e below (T15.setTop (mkF m 102 #[.val (.int p1), .val (.int p2), .val (.int p3), .val (.int p4), .val (.int w4), .val (.int w5), .val (.int w6), .val (.ref b10), .val (.int (own_ne (0 : Int32) w4)), .val (.int (own_ne w4 w5)), .val (.int (own_ne w5 w6)), .val (.int (own_ne w6 w6))] [(.int w4), (.int (own_ne (0 : Int32) w4))])) t → Steps p.tables e below (s₁.setTop (entryFrame m #[(.int p1), (.int p2), (.int p3), (.int p4)] maxLocals)) t := by
      intro t k
      refine pre16 _ ?_
      show Steps p.tables e below (T15.setTop (mkF m 100 #[.val (.int p1), .val (.int p2), .val (.int p3), .val (.int p4), .val (.int w4), .val (.int w5), .val (.int w6), .val (.ref b10), .val (.int (own_ne (0 : Int32) w4)), .val (.int (own_ne w4 w5)), .val (.int (own_ne w5 w6)), .val (.int (own_ne w6 w6))] [(.int (own_ne (0 : Int32) w4))])) _
      refine XS.iload X15.here hx rfl (hb hby at_100) rfl ?_
      exact k
    by_cases hc102 : w4 = (0 : Int32)
    · -- hc102 
      refine ⟨(0 : Int32), by exact own_ne0 hc102, fun t k => ?_⟩
      refine pre18 _ ?_
      show Steps p.tables e below (T15.setTop (mkF m 102 #[.val (.int p1), .val (.int p2), .val (.int p3), .val (.int p4), .val (.int w4), .val (.int w5), .val (.int w6), .val (.ref b10), .val (.int (own_ne (0 : Int32) w4)), .val (.int (own_ne w4 w5)), .val (.int (own_ne w5 w6)), .val (.int (own_ne w6 w6))] [(.int w4), (.int (own_ne (0 : Int32) w4))])) _
      refine XS.ifYes X15.here hx rfl (pc0 := 102) (pc' := 109) rfl (hb hby at_102) rfl ((if0 _ _).trans (teq hc102).1) (by decide) (by decide) ?_
      show Steps p.tables e below (T15.setTop (mkF m 109 #[.val (.int p1), .val (.int p2), .val (.int p3), .val (.int p4), .val (.int w4), .val (.int w5), .val (.int w6), .val (.ref b10), .val (.int (own_ne (0 : Int32) w4)), .val (.int (own_ne w4 w5)), .val (.int (own_ne w5 w6)), .val (.int (own_ne w6 w6))] [(.int (own_ne (0 : Int32) w4))])) _
      refine XS.iconst X15.here hx rfl (hb hby at_109) ?_
      exact k
    · -- hc102 not
      refine ⟨(1 : Int32), by exact own_ne1 hc102, fun t k => ?_⟩
      refine pre18 _ ?_
      show Steps p.tables e below (T15.setTop (mkF m 102 #[.val (.int p1), .val (.int p2), .val (.int p3), .val (.int p4), .val (.int w4), .val (.int w5), .val (.int w6), .val (.ref b10), .val (.int (own_ne (0 : Int32) w4)), .val (.int (own_ne w4 w5)), .val (.int (own_ne w5 w6)), .val (.int (own_ne w6 w6))] [(.int w4), (.int (own_ne (0 : Int32) w4))])) _
      refine XS.ifNo X15.here hx rfl (hb hby at_102) rfl ((if0 _ _).trans (feq hc102).1) ?_
      show Steps p.tables e below (T15.setTop (mkF m 105 #[.val (.int p1), .val (.int p2), .val (.int p3), .val (.int p4), .val (.int w4), .val (.int w5), .val (.int w6), .val (.ref b10), .val (.int (own_ne (0 : Int32) w4)), .val (.int (own_ne w4 w5)), .val (.int (own_ne w5 w6)), .val (.int (own_ne w6 w6))] [(.int (own_ne (0 : Int32) w4))])) _
      refine XS.iconst X15.here hx rfl (hb hby at_105) ?_
      show Steps p.tables e below (T15.setTop (mkF m 106 #[.val (.int p1), .val (.int p2), .val (.int p3), .val (.int p4), .val (.int w4), .val (.int w5), .val (.int w6), .val (.ref b10), .val (.int (own_ne (0 : Int32) w4)), .val (.int (own_ne w4 w5)), .val (.int (own_ne w5 w6)), .val (.int (own_ne w6 w6))] [(.int (1 : Int32)), (.int (own_ne (0 : Int32) w4))])) _
      refine XS.goto X15.here hx rfl (pc0 := 106) (pc' := 110) rfl (hb hby at_106) (by decide) (by decide) ?_
      exact k
  have pre19 : ∀ t, Steps p.tables e below (T15.setTop (mkF m 115 #[.val (.int p1), .val (.int p2), .val (.int p3), .val (.int p4), .val (.int w4), .val (.int w5), .val (.int w6), .val (.ref b10), .val (.int (own_ne (0 : Int32) w4)), .val (.int (own_ne w4 w5)), .val (.int (own_ne w5 w6)), .val (.int (own_ne w6 w6))] [(.int (own_ne w4 w5))])) t → Steps p.tables e below (s₁.setTop (entryFrame m #[(.int p1), (.int p2), (.int p3), (.int p4)] maxLocals)) t := by
    intro t k
    refine pre17 _ ?_
    show Steps p.tables e below (T15.setTop (mkF m 110 #[.val (.int p1), .val (.int p2), .val (.int p3), .val (.int p4), .val (.int w4), .val (.int w5), .val (.int w6), .val (.ref b10), .val (.int (own_ne (0 : Int32) w4)), .val (.int (own_ne w4 w5)), .val (.int (own_ne w5 w6)), .val (.int (own_ne w6 w6))] [(.int w110), (.int (own_ne (0 : Int32) w4))])) _
    refine XS.icmpNo X15.here hx rfl (hb hby at_110) rfl (teq ((own_neS _ _).trans hw110.symm : (own_ne (0 : Int32) w4) = w110)).2 ?_
    show Steps p.tables e below (T15.setTop (mkF m 113 #[.val (.int p1), .val (.int p2), .val (.int p3), .val (.int p4), .val (.int w4), .val (.int w5), .val (.int w6), .val (.ref b10), .val (.int (own_ne (0 : Int32) w4)), .val (.int (own_ne w4 w5)), .val (.int (own_ne w5 w6)), .val (.int (own_ne w6 w6))] [])) _
    refine XS.iload X15.here hx rfl (hb hby at_113) rfl ?_
    exact k
  obtain ⟨w127, hw127, pre20⟩ : ∃ (w127 : Int32), (w127 = own_ne w5 w4) ∧ ∀ t, Steps p.tables e below (T15.setTop (mkF m 127 #[.val (.int p1), .val (.int p2), .val (.int p3), .val (.int p4), .val (.int w4), .val (.int w5), .val (.int w6), .val (.ref b10), .val (.int (own_ne (0 : Int32) w4)), .val (.int (own_ne w4 w5)), .val (.int (own_ne w5 w6)), .val (.int (own_ne w6 w6))] [(.int w127), (.int (own_ne w4 w5))])) t → Steps p.tables e below (s₁.setTop (entryFrame m #[(.int p1), (.int p2), (.int p3), (.int p4)] maxLocals)) t := by
    have pre21 : ∀ t, Steps p.tables e below (T15.setTop (mkF m 119 #[.val (.int p1), .val (.int p2), .val (.int p3), .val (.int p4), .val (.int w4), .val (.int w5), .val (.int w6), .val (.ref b10), .val (.int (own_ne (0 : Int32) w4)), .val (.int (own_ne w4 w5)), .val (.int (own_ne w5 w6)), .val (.int (own_ne w6 w6))] [(.int w4), (.int w5), (.int (own_ne w4 w5))])) t → Steps p.tables e below (s₁.setTop (entryFrame m #[(.int p1), (.int p2), (.int p3), (.int p4)] maxLocals)) t := by
      intro t k
      refine pre19 _ ?_
      show Steps p.tables e below (T15.setTop (mkF m 115 #[.val (.int p1), .val (.int p2), .val (.int p3), .val (.int p4), .val (.int w4), .val (.int w5), .val (.int w6), .val (.ref b10), .val (.int (own_ne (0 : Int32) w4)), .val (.int (own_ne w4 w5)), .val (.int (own_ne w5 w6)), .val (.int (own_ne w6 w6))] [(.int (own_ne w4 w5))])) _
      refine XS.iload X15.here hx rfl (hb hby at_115) rfl ?_
      show Steps p.tables e below (T15.setTop (mkF m 117 #[.val (.int p1), .val (.int p2), .val (.int p3), .val (.int p4), .val (.int w4), .val (.int w5), .val (.int w6), .val (.ref b10), .val (.int (own_ne (0 : Int32) w4)), .val (.int (own_ne w4 w5)), .val (.int (own_ne w5 w6)), .val (.int (own_ne w6 w6))] [(.int w5), (.int (own_ne w4 w5))])) _
      refine XS.iload X15.here hx rfl (hb hby at_117) rfl ?_
      exact k
    by_cases hc119 : w5 = w4
    · -- hc119 
      refine ⟨(0 : Int32), by exact own_ne0 hc119, fun t k => ?_⟩
      refine pre21 _ ?_
      show Steps p.tables e below (T15.setTop (mkF m 119 #[.val (.int p1), .val (.int p2), .val (.int p3), .val (.int p4), .val (.int w4), .val (.int w5), .val (.int w6), .val (.ref b10), .val (.int (own_ne (0 : Int32) w4)), .val (.int (own_ne w4 w5)), .val (.int (own_ne w5 w6)), .val (.int (own_ne w6 w6))] [(.int w4), (.int w5), (.int (own_ne w4 w5))])) _
      refine XS.icmpYes X15.here hx rfl (pc0 := 119) (pc' := 126) rfl (hb hby at_119) rfl (teq hc119).1 (by decide) (by decide) ?_
      show Steps p.tables e below (T15.setTop (mkF m 126 #[.val (.int p1), .val (.int p2), .val (.int p3), .val (.int p4), .val (.int w4), .val (.int w5), .val (.int w6), .val (.ref b10), .val (.int (own_ne (0 : Int32) w4)), .val (.int (own_ne w4 w5)), .val (.int (own_ne w5 w6)), .val (.int (own_ne w6 w6))] [(.int (own_ne w4 w5))])) _
      refine XS.iconst X15.here hx rfl (hb hby at_126) ?_
      exact k
    · -- hc119 not
      refine ⟨(1 : Int32), by exact own_ne1 hc119, fun t k => ?_⟩
      refine pre21 _ ?_
      show Steps p.tables e below (T15.setTop (mkF m 119 #[.val (.int p1), .val (.int p2), .val (.int p3), .val (.int p4), .val (.int w4), .val (.int w5), .val (.int w6), .val (.ref b10), .val (.int (own_ne (0 : Int32) w4)), .val (.int (own_ne w4 w5)), .val (.int (own_ne w5 w6)), .val (.int (own_ne w6 w6))] [(.int w4), (.int w5), (.int (own_ne w4 w5))])) _
      refine XS.icmpNo X15.here hx rfl (hb hby at_119) rfl (feq hc119).1 ?_
      show Steps p.tables e below (T15.setTop (mkF m 122 #[.val (.int p1), .val (.int p2), .val (.int p3), .val (.int p4), .val (.int w4), .val (.int w5), .val (.int w6), .val (.ref b10), .val (.int (own_ne (0 : Int32) w4)), .val (.int (own_ne w4 w5)), .val (.int (own_ne w5 w6)), .val (.int (own_ne w6 w6))] [(.int (own_ne w4 w5))])) _
      refine XS.iconst X15.here hx rfl (hb hby at_122) ?_
      show Steps p.tables e below (T15.setTop (mkF m 123 #[.val (.int p1), .val (.int p2), .val (.int p3), .val (.int p4), .val (.int w4), .val (.int w5), .val (.int w6), .val (.ref b10), .val (.int (own_ne (0 : Int32) w4)), .val (.int (own_ne w4 w5)), .val (.int (own_ne w5 w6)), .val (.int (own_ne w6 w6))] [(.int (1 : Int32)), (.int (own_ne w4 w5))])) _
      refine XS.goto X15.here hx rfl (pc0 := 123) (pc' := 127) rfl (hb hby at_123) (by decide) (by decide) ?_
      exact k
  have pre22 : ∀ t, Steps p.tables e below (T15.setTop (mkF m 132 #[.val (.int p1), .val (.int p2), .val (.int p3), .val (.int p4), .val (.int w4), .val (.int w5), .val (.int w6), .val (.ref b10), .val (.int (own_ne (0 : Int32) w4)), .val (.int (own_ne w4 w5)), .val (.int (own_ne w5 w6)), .val (.int (own_ne w6 w6))] [(.int (own_ne w5 w6))])) t → Steps p.tables e below (s₁.setTop (entryFrame m #[(.int p1), (.int p2), (.int p3), (.int p4)] maxLocals)) t := by
    intro t k
    refine pre20 _ ?_
    show Steps p.tables e below (T15.setTop (mkF m 127 #[.val (.int p1), .val (.int p2), .val (.int p3), .val (.int p4), .val (.int w4), .val (.int w5), .val (.int w6), .val (.ref b10), .val (.int (own_ne (0 : Int32) w4)), .val (.int (own_ne w4 w5)), .val (.int (own_ne w5 w6)), .val (.int (own_ne w6 w6))] [(.int w127), (.int (own_ne w4 w5))])) _
    refine XS.icmpNo X15.here hx rfl (hb hby at_127) rfl (teq ((own_neS _ _).trans hw127.symm : (own_ne w4 w5) = w127)).2 ?_
    show Steps p.tables e below (T15.setTop (mkF m 130 #[.val (.int p1), .val (.int p2), .val (.int p3), .val (.int p4), .val (.int w4), .val (.int w5), .val (.int w6), .val (.ref b10), .val (.int (own_ne (0 : Int32) w4)), .val (.int (own_ne w4 w5)), .val (.int (own_ne w5 w6)), .val (.int (own_ne w6 w6))] [])) _
    refine XS.iload X15.here hx rfl (hb hby at_130) rfl ?_
    exact k
  obtain ⟨w144, hw144, pre23⟩ : ∃ (w144 : Int32), (w144 = own_ne w6 w5) ∧ ∀ t, Steps p.tables e below (T15.setTop (mkF m 144 #[.val (.int p1), .val (.int p2), .val (.int p3), .val (.int p4), .val (.int w4), .val (.int w5), .val (.int w6), .val (.ref b10), .val (.int (own_ne (0 : Int32) w4)), .val (.int (own_ne w4 w5)), .val (.int (own_ne w5 w6)), .val (.int (own_ne w6 w6))] [(.int w144), (.int (own_ne w5 w6))])) t → Steps p.tables e below (s₁.setTop (entryFrame m #[(.int p1), (.int p2), (.int p3), (.int p4)] maxLocals)) t := by
    have pre24 : ∀ t, Steps p.tables e below (T15.setTop (mkF m 136 #[.val (.int p1), .val (.int p2), .val (.int p3), .val (.int p4), .val (.int w4), .val (.int w5), .val (.int w6), .val (.ref b10), .val (.int (own_ne (0 : Int32) w4)), .val (.int (own_ne w4 w5)), .val (.int (own_ne w5 w6)), .val (.int (own_ne w6 w6))] [(.int w5), (.int w6), (.int (own_ne w5 w6))])) t → Steps p.tables e below (s₁.setTop (entryFrame m #[(.int p1), (.int p2), (.int p3), (.int p4)] maxLocals)) t := by
      intro t k
      refine pre22 _ ?_
      show Steps p.tables e below (T15.setTop (mkF m 132 #[.val (.int p1), .val (.int p2), .val (.int p3), .val (.int p4), .val (.int w4), .val (.int w5), .val (.int w6), .val (.ref b10), .val (.int (own_ne (0 : Int32) w4)), .val (.int (own_ne w4 w5)), .val (.int (own_ne w5 w6)), .val (.int (own_ne w6 w6))] [(.int (own_ne w5 w6))])) _
      refine XS.iload X15.here hx rfl (hb hby at_132) rfl ?_
      show Steps p.tables e below (T15.setTop (mkF m 134 #[.val (.int p1), .val (.int p2), .val (.int p3), .val (.int p4), .val (.int w4), .val (.int w5), .val (.int w6), .val (.ref b10), .val (.int (own_ne (0 : Int32) w4)), .val (.int (own_ne w4 w5)), .val (.int (own_ne w5 w6)), .val (.int (own_ne w6 w6))] [(.int w6), (.int (own_ne w5 w6))])) _
      refine XS.iload X15.here hx rfl (hb hby at_134) rfl ?_
      exact k
    by_cases hc136 : w6 = w5
    · -- hc136 
      refine ⟨(0 : Int32), by exact own_ne0 hc136, fun t k => ?_⟩
      refine pre24 _ ?_
      show Steps p.tables e below (T15.setTop (mkF m 136 #[.val (.int p1), .val (.int p2), .val (.int p3), .val (.int p4), .val (.int w4), .val (.int w5), .val (.int w6), .val (.ref b10), .val (.int (own_ne (0 : Int32) w4)), .val (.int (own_ne w4 w5)), .val (.int (own_ne w5 w6)), .val (.int (own_ne w6 w6))] [(.int w5), (.int w6), (.int (own_ne w5 w6))])) _
      refine XS.icmpYes X15.here hx rfl (pc0 := 136) (pc' := 143) rfl (hb hby at_136) rfl (teq hc136).1 (by decide) (by decide) ?_
      show Steps p.tables e below (T15.setTop (mkF m 143 #[.val (.int p1), .val (.int p2), .val (.int p3), .val (.int p4), .val (.int w4), .val (.int w5), .val (.int w6), .val (.ref b10), .val (.int (own_ne (0 : Int32) w4)), .val (.int (own_ne w4 w5)), .val (.int (own_ne w5 w6)), .val (.int (own_ne w6 w6))] [(.int (own_ne w5 w6))])) _
      refine XS.iconst X15.here hx rfl (hb hby at_143) ?_
      exact k
    · -- hc136 not
      refine ⟨(1 : Int32), by exact own_ne1 hc136, fun t k => ?_⟩
      refine pre24 _ ?_
      show Steps p.tables e below (T15.setTop (mkF m 136 #[.val (.int p1), .val (.int p2), .val (.int p3), .val (.int p4), .val (.int w4), .val (.int w5), .val (.int w6), .val (.ref b10), .val (.int (own_ne (0 : Int32) w4)), .val (.int (own_ne w4 w5)), .val (.int (own_ne w5 w6)), .val (.int (own_ne w6 w6))] [(.int w5), (.int w6), (.int (own_ne w5 w6))])) _
      refine XS.icmpNo X15.here hx rfl (hb hby at_136) rfl (feq hc136).1 ?_
      show Steps p.tables e below (T15.setTop (mkF m 139 #[.val (.int p1), .val (.int p2), .val (.int p3), .val (.int p4), .val (.int w4), .val (.int w5), .val (.int w6), .val (.ref b10), .val (.int (own_ne (0 : Int32) w4)), .val (.int (own_ne w4 w5)), .val (.int (own_ne w5 w6)), .val (.int (own_ne w6 w6))] [(.int (own_ne w5 w6))])) _
      refine XS.iconst X15.here hx rfl (hb hby at_139) ?_
      show Steps p.tables e below (T15.setTop (mkF m 140 #[.val (.int p1), .val (.int p2), .val (.int p3), .val (.int p4), .val (.int w4), .val (.int w5), .val (.int w6), .val (.ref b10), .val (.int (own_ne (0 : Int32) w4)), .val (.int (own_ne w4 w5)), .val (.int (own_ne w5 w6)), .val (.int (own_ne w6 w6))] [(.int (1 : Int32)), (.int (own_ne w5 w6))])) _
      refine XS.goto X15.here hx rfl (pc0 := 140) (pc' := 144) rfl (hb hby at_140) (by decide) (by decide) ?_
      exact k
  have pre25 : ∀ t, Steps p.tables e below (T15.setTop (mkF m 157 #[.val (.int p1), .val (.int p2), .val (.int p3), .val (.int p4), .val (.int w4), .val (.int w5), .val (.int w6), .val (.ref b10), .val (.int (own_ne (0 : Int32) w4)), .val (.int (own_ne w4 w5)), .val (.int (own_ne w5 w6)), .val (.int (own_ne w6 w6))] [(.int (1 : Int32))])) t → Steps p.tables e below (s₁.setTop (entryFrame m #[(.int p1), (.int p2), (.int p3), (.int p4)] maxLocals)) t := by
    intro t k
    refine pre23 _ ?_
    show Steps p.tables e below (T15.setTop (mkF m 144 #[.val (.int p1), .val (.int p2), .val (.int p3), .val (.int p4), .val (.int w4), .val (.int w5), .val (.int w6), .val (.ref b10), .val (.int (own_ne (0 : Int32) w4)), .val (.int (own_ne w4 w5)), .val (.int (own_ne w5 w6)), .val (.int (own_ne w6 w6))] [(.int w144), (.int (own_ne w5 w6))])) _
    refine XS.icmpNo X15.here hx rfl (hb hby at_144) rfl (teq ((own_neS _ _).trans hw144.symm : (own_ne w5 w6) = w144)).2 ?_
    show Steps p.tables e below (T15.setTop (mkF m 147 #[.val (.int p1), .val (.int p2), .val (.int p3), .val (.int p4), .val (.int w4), .val (.int w5), .val (.int w6), .val (.ref b10), .val (.int (own_ne (0 : Int32) w4)), .val (.int (own_ne w4 w5)), .val (.int (own_ne w5 w6)), .val (.int (own_ne w6 w6))] [])) _
    refine XS.iload X15.here hx rfl (hb hby at_147) rfl ?_
    show Steps p.tables e below (T15.setTop (mkF m 149 #[.val (.int p1), .val (.int p2), .val (.int p3), .val (.int p4), .val (.int w4), .val (.int w5), .val (.int w6), .val (.ref b10), .val (.int (own_ne (0 : Int32) w4)), .val (.int (own_ne w4 w5)), .val (.int (own_ne w5 w6)), .val (.int (own_ne w6 w6))] [(.int (own_ne w6 w6))])) _
    refine XS.ifNo X15.here hx rfl (hb hby at_149) rfl ((if0 _ _).trans (teq ((own_ne0 rfl).symm : (own_ne w6 w6) = (0 : Int32))).2) ?_
    show Steps p.tables e below (T15.setTop (mkF m 152 #[.val (.int p1), .val (.int p2), .val (.int p3), .val (.int p4), .val (.int w4), .val (.int w5), .val (.int w6), .val (.ref b10), .val (.int (own_ne (0 : Int32) w4)), .val (.int (own_ne w4 w5)), .val (.int (own_ne w5 w6)), .val (.int (own_ne w6 w6))] [])) _
    refine XS.iconst X15.here hx rfl (hb hby at_152) ?_
    show Steps p.tables e below (T15.setTop (mkF m 153 #[.val (.int p1), .val (.int p2), .val (.int p3), .val (.int p4), .val (.int w4), .val (.int w5), .val (.int w6), .val (.ref b10), .val (.int (own_ne (0 : Int32) w4)), .val (.int (own_ne w4 w5)), .val (.int (own_ne w5 w6)), .val (.int (own_ne w6 w6))] [(.int (1 : Int32))])) _
    refine XS.goto X15.here hx rfl (pc0 := 153) (pc' := 157) rfl (hb hby at_153) (by decide) (by decide) ?_
    exact k
  obtain ⟨fs, hr, hrun, hended, hW, hsame⟩ := X15.leave (v := some (.int (1 : Int32))) (fun h => by rw [Bd.returns] at h; cases h)
  refine ⟨_, _, pre25 _ ?_, hrun, hended, _, _, rfl, ?_, ⟨_, rfl⟩, hW, hsame.mono (by decide) (by decide)⟩
  · show Steps p.tables e below (T15.setTop (mkF m 157 #[.val (.int p1), .val (.int p2), .val (.int p3), .val (.int p4), .val (.int w4), .val (.int w5), .val (.int w6), .val (.ref b10), .val (.int (own_ne (0 : Int32) w4)), .val (.int (own_ne w4 w5)), .val (.int (own_ne w5 w6)), .val (.int (own_ne w6 w6))] [(.int (1 : Int32))])) _
    exact retN X15 hx (t := .boolean) Bd.returns (by simp) (hb hby at_157) hr
  · show own_Q0 Z p1 p2 p3 p4 h0 n0 _ T15.heap _
    exact ⟨rfl, N15⟩
set_option maxRecDepth 65536 in
set_option maxHeartbeats 40000000 in
theorem comes_1 {Post : Tables → Env → Array Value → State → Outcome → State → Prop} (hpost : ∀ tb e args s v u, (limb_1_1.after args s (.returned v) u = true ∧ limb_1_2.after args s (.returned v) u = true ∧ True) → FrameEnd s (.returned v) u (Jvm.fieldLocs frame_1_writes args s ++ Jvm.arrayLocs frame_1_arrays args s ++ Jvm.staticLocs frame_1_statics s) 16 128 → Post tb e args s (.returned v) u) :
    ArmFor flags0 classFile x code maxLocals ret World_1 tables_1 room_1 Calls_1 rest_1 Pre_1 Post := by
  intro l hfl _ _ p e ha hc hk s m args below hf hA hF happ hP
  obtain ⟨hcalls, hrest, hpre⟩ := hP
  obtain ⟨-, -, -, hnamed, -, -, -, hat⟩ := (Spec.applies_iff hf).mp happ
  obtain ⟨hg, hn⟩ := and_e (Cond.before_iff.mp (show (Jvm.Cond.and given_1 narrow_1).before args s = true from hpre))
  obtain ⟨hg2, hg3⟩ := and_e hg
  obtain ⟨hg4, hg5⟩ := and_e hg3
  obtain ⟨hg6, hg7⟩ := and_e hg5
  obtain ⟨hg8, hg9⟩ := and_e hg7
  obtain ⟨w0, w1, w2, w3, rfl⟩ : ∃ w0 w1 w2 w3 : Value, args = #[w0, w1, w2, w3] := by
    have hs : args.size = 4 := by simpa [Cond.value, given_1] using hg2
    obtain ⟨L⟩ := args
    match L, hs with
    | [w0, w1, w2, w3], _ => exact ⟨w0, w1, w2, w3, rfl⟩
  have hw := fun d (hd : d ∈ tables_1) => atoms_spec (ws := Jvm.Cond.code x code maxLocals ret :: tables_1) hat d (List.mem_cons_of_mem _ hd)
  obtain ⟨i0, ei0⟩ := is_v hg4
  obtain rfl : w0 = (.int i0) := Option.some.inj ei0
  obtain ⟨i1, ei1⟩ := is_v hg6
  obtain rfl : w1 = (.int i1) := Option.some.inj ei1
  obtain ⟨i2, ei2⟩ := is_v hg8
  obtain rfl : w2 = (.int i2) := Option.some.inj ei2
  obtain ⟨i3, ei3⟩ := is_v hg9
  obtain rfl : w3 = (.int i3) := Option.some.inj ei3
  obtain ⟨n, o, h1, h2, h3, _, L, rfl, ⟨rfl, N⟩, hq⟩ := rm0 l s _ hw tables_1 i0 i1 i2 i3  s.heap s.heap.size (Nat.le_refl _)  p e ha hc hk s m _ below hf ((Spec.applies_iff_loose hf).mp happ).1 ⟨rfl, State.Warmed39.refl s, rfl⟩ trivial
  refine ⟨n, _, h1, h2, h3, hpost _ _ _ _ _ _ ⟨Cond.after_iff.mpr rfl, Cond.after_iff.mpr (eq_i res_at (Term.int_eval (1)) rfl), trivial⟩ ⟨hq.1, hq.2.1, (hq.2.2.sift fun y hy => Or.inr (N y hy)).mono (by decide) (by decide)⟩⟩
theorem main_1_1 : Claimed_1_1 := comes_1 fun _ _ _ _ _ _ h hF => ⟨h.1, hF⟩
theorem main_1_2 : Claimed_1_2 := comes_1 fun _ _ _ _ _ _ h hF => ⟨h.2.1, hF⟩
end Jvm.Pilot.@@N@@
namespace Jvm.Pilot.@@N@@
open Jvm Jvm.ClassFile Sem Op Lib Jvm.Free Jvm.Stand Jvm.Pilot.@@N@@.Jvm.D
/-! MADE BY PROGRAM (witnessworld.py) out of the Statement's table words and the real class files: 9 classes; the members and pool entries that the words name. The judged class is class 2, her method 1. -/
namespace start1
open Jvm.ClassFile
def u (s : String) : CpInfo := .utf8 (stringToUtf16 s)
/-- a pool by its gaps: so many unusable entries, then the entry; so many at the end -/
def gap : Nat → List CpInfo → List CpInfo
  | 0, r => r
  | n + 1, r => .unusable :: gap n r
def poolList (es : List (Nat × CpInfo)) (last : Nat) : List CpInfo := es.foldr (fun e r => gap e.1 (e.2 :: r)) (gap last [])
def pool (es : List (Nat × CpInfo)) (last : Nat) : Array CpInfo := ⟨poolList es last⟩
def fileOf (pool : Array CpInfo) (this : Nat) (attrs : Array Attribute := #[]) (ms : Array MethodInfo := #[]) (fl : Nat := 33) (sup : Nat := 0) (ifs : Array Nat := #[]) (fds : Array FieldInfo := #[]) : ClassFile where
  minorVersion := 0
  majorVersion := 65
  constantPool := pool
  accessFlags := fl
  thisClass := this
  superClass := sup
  interfaces := ifs
  fields := fds
  methods := ms
  attributes := attrs
def plain (name : String) (sup : Option ClassId) : Class where
  name := name
  kind := .ordinary
  loader := none
  accessFlags := 33
  super := sup
  interfaces := #[]
  cf := none
  fields := #[]
  methods := #[]
  instanceTypes := #[]
  staticTypes := #[]
  resolved := #[]
  callSites := []
  init := .initialized
  statics := none
  mirror := none

def pool0 : Array CpInfo := pool [(5, u "<init>"), (0, u "()V"), (1, .class_ 10), (1, u "java/lang/Object")] 113

def k0c0 : Code := { maxStack := 0, maxLocals := 1, code := object_method_1_code, exceptionTable := #[], attributes := #[] }
def k0m0 : Method := { name := "<init>", desc := "()V", sig := { parameters := [], returnType := none }, accessFlags := 1, code := some k0c0 }
/-- java/lang/Object -/
def k0 : Class := { plain "java/lang/Object" none with
  accessFlags := 33
  interfaces := #[]
  cf := some (fileOf pool0 8 #[] #[{ accessFlags := 1, nameIndex := 5, descriptorIndex := 6, attributes := #[] }] 33 0 #[] #[])
  fields := #[]
  methods := #[k0m0]
  instanceTypes := #[]
  staticTypes := #[]
  resolved := Array.replicate 124 none
  statics := none }

def pool1 : Array CpInfo := pool [(1, .methodref 2 3), (0, .class_ 4), (0, .nameAndType 5 6), (0, u "java/lang/Object"), (0, u "<init>"), (0, u "()V"), (0, .fieldref 8 9), (0, .class_ 10), (0, .nameAndType 11 12), (0, u "com/example/modelspan/modelspan/express/WalkedNode"), (0, u "metBy"), (0, u "I"), (2, u "meet"), (0, u "(I)Z")] 3

def k1c0 : Code := { maxStack := 1, maxLocals := 1, code := prog_70_method_1_code, exceptionTable := #[], attributes := #[] }
def k1m0 : Method := { name := "<init>", desc := "()V", sig := { parameters := [], returnType := none }, accessFlags := 0, code := some k1c0 }
def k1c1 : Code := { maxStack := 2, maxLocals := 3, code := prog_70_method_2_code, exceptionTable := #[], attributes := #[] }
def k1m1 : Method := { name := "meet", desc := "(I)Z", sig := { parameters := [.int], returnType := some .boolean }, accessFlags := 0, code := some k1c1 }
/-- com/example/modelspan/modelspan/express/WalkedNode -/
def k1 : Class := { plain "com/example/modelspan/modelspan/express/WalkedNode" (some 0) with
  accessFlags := 1056
  interfaces := #[]
  cf := some (fileOf pool1 8 #[] #[{ accessFlags := 0, nameIndex := 5, descriptorIndex := 6, attributes := #[] }, { accessFlags := 0, nameIndex := 15, descriptorIndex := 16, attributes := #[] }] 1056 2 #[] #[{ accessFlags := 2, nameIndex := 11, descriptorIndex := 12, attributes := #[] }])
  fields := #[{ name := "metBy", type := .int, accessFlags := 2, slot := 0, constantValue := 0 }]
  methods := #[k1m0, k1m1]
  instanceTypes := #[.int]
  staticTypes := #[]
  resolved := Array.replicate 20 none
  statics := none }

def pool2 : Array CpInfo := pool [(1, .methodref 2 3), (0, .class_ 4), (0, .nameAndType 5 6), (0, u "com/example/modelspan/modelspan/express/WalkedNode"), (0, u "<init>"), (0, u "()V"), (0, .class_ 8), (0, u "com/example/modelspan/modelspan/express/WalkedNodeMeetPinLaw"), (0, .methodref 7 3), (0, .methodref 7 11), (0, .nameAndType 12 13), (0, u "meet"), (0, u "(I)Z"), (2, u "law"), (0, u "(IIII)Z")] 3

def k2c0 : Code := { maxStack := 1, maxLocals := 1, code := method_1_code, exceptionTable := #[], attributes := #[] }
def k2m0 : Method := { name := "<init>", desc := "()V", sig := { parameters := [], returnType := none }, accessFlags := 1, code := some k2c0 }
def k2c1 : Code := { maxStack := 3, maxLocals := 12, code := code, exceptionTable := #[], attributes := #[] }
def k2m1 : Method := { name := "law", desc := "(IIII)Z", sig := { parameters := [.int, .int, .int, .int], returnType := some .boolean }, accessFlags := 9, code := some k2c1 }
/-- com/example/modelspan/modelspan/express/WalkedNodeMeetPinLaw -/
def k2 : Class := { plain "com/example/modelspan/modelspan/express/WalkedNodeMeetPinLaw" (some 1) with
  accessFlags := 49
  interfaces := #[]
  cf := some (fileOf pool2 7 #[] #[{ accessFlags := 1, nameIndex := 5, descriptorIndex := 6, attributes := #[] }, { accessFlags := 9, nameIndex := 16, descriptorIndex := 17, attributes := #[] }] 49 2 #[] #[])
  fields := #[]
  methods := #[k2m0, k2m1]
  instanceTypes := #[.int]
  staticTypes := #[]
  resolved := Array.replicate 21 none
  statics := none }

def pool3 : Array CpInfo := pool [(1, u "java/lang/Cloneable"), (0, .class_ 1), (0, u "java/lang/Object"), (0, .class_ 3)] 3

/-- java/lang/Cloneable -/
def k3 : Class := { plain "java/lang/Cloneable" (some 0) with
  accessFlags := 1537
  interfaces := #[]
  cf := some (fileOf pool3 2 #[] #[] 1537 4 #[] #[])
  fields := #[]
  methods := #[]
  instanceTypes := #[]
  staticTypes := #[]
  resolved := Array.replicate 8 none
  statics := none }

def pool4 : Array CpInfo := pool [(1, u "java/io/Serializable"), (0, .class_ 1), (0, u "java/lang/Object"), (0, .class_ 3)] 3

/-- java/io/Serializable -/
def k4 : Class := { plain "java/io/Serializable" (some 0) with
  accessFlags := 1537
  interfaces := #[]
  cf := some (fileOf pool4 2 #[] #[] 1537 4 #[] #[])
  fields := #[]
  methods := #[]
  instanceTypes := #[]
  staticTypes := #[]
  resolved := Array.replicate 8 none
  statics := none }

/-- the primitive byte -/
def k5 : Class := { plain "byte" none with kind := .primitive 'B', accessFlags := 0x411 }
/-- [B -/
def k6 : Class := { plain "[B" (some 0) with kind := .array 5 .byte, interfaces := #[3, 4], accessFlags := 1041 }

/-- the primitive int -/
def k7 : Class := { plain "int" none with kind := .primitive 'I', accessFlags := 0x411 }
/-- [I -/
def k8 : Class := { plain "[I" (some 0) with kind := .array 7 .int, interfaces := #[3, 4], accessFlags := 1041 }

def heap : Heap := #[]
def classes : Array Class := #[k0, k1, k2, k3, k4, k5, k6, k7, k8]
def interned : List (Array UInt16 × Addr) := []
def slotsUsed : Nat := 0
def theMethod : MethodId := ⟨2, 1⟩
def args0 : Array Value := #[.int 5, .int 7, .int 1, .int 2]
def aboutOver (below : List Frame) : State where
  vm := { classes := classes, interned := interned.toArray }
  heap := heap
  slotsUsed := slotsUsed
  threads := #[{ frames := .invoking theMethod args0 :: below }]
def below0 : List Frame := [.native { method := ⟨0, 0⟩, args := #[] }]
def about1 : State := aboutOver below0
def p0 : Program := .bare "" "" ""
def e0 : Env := launch0.env 0 0 0
theorem w_frames : about1.frames = Frame.invoking theMethod args0 :: below0 := rfl
set_option maxRecDepth 65536 in
theorem w_args : argsFit about1.vm theMethod args0 = true := by decide +kernel
set_option maxRecDepth 65536 in
theorem w_heap : heapFits about1 = true := by decide +kernel
set_option maxRecDepth 65536 in
theorem w_runnable : about1.curStatus? = some .runnable := by decide +kernel
set_option maxRecDepth 65536 in
theorem w_alone : about1.alone = true := by decide +kernel
set_option maxRecDepth 65536 in
theorem w_named : about1.methodNamed? x = some theMethod := by decide +kernel
set_option maxRecDepth 65536 in
theorem w_hears : about1.hears theMethod below0 = true := by decide +kernel
set_option maxRecDepth 65536 in
theorem w_ripe : about1.ripe theMethod args0 below0 = true := by decide +kernel
theorem w_running : about1.status = .running := rfl
set_option maxRecDepth 65536 in
theorem w_room : about1.hasRoom e0.platform room_1 = true :=
  launch0.hasRoom_least _ room_1 (by decide +kernel) (by decide +kernel) (by decide +kernel) (by decide +kernel) (by decide +kernel) (by decide +kernel)
theorem allAtoms_all (ts : List Jvm.Cond) (a : Array Jvm.Value) (st : Jvm.State) : (allAtoms ts).before a st = ts.all (fun c => c.before a st) := by
  induction ts with
  | nil => rfl
  | cons c t ih =>
    show (Jvm.Cond.and c (allAtoms t)).before a st = _
    rw [Jvm.Cond.before_and, ih, List.all_cons]
def words1 : List Jvm.Cond := Jvm.Cond.code x code maxLocals ret :: tables_1
/-- a 'code' word, met by the world's own term for the bytes: nothing is compared byte by byte -/
theorem code_word {y : MethodName} {bytes : ByteArray} {mx : Nat} {rt : Option FieldType} {a : Array Value} {s : State} {m : MethodId} {meth : Method} {c : Code} (h1 : s.methodNamed? y = some m) (h2 : s.vm.method? m = some meth) (h3 : meth.code = some c) (h4 : c.code = bytes)
    (h5 : (c.maxLocals == mx && c.exceptionTable.isEmpty && decide (c.maxStack ≤ mostOperands) && decide (meth.sig.returnType = rt) && !meth.locks && decide (parseMethodDescriptor y.desc = some meth.sig)) = true) : (Jvm.Cond.code y bytes mx rt).before a s = true := by
  simp only [Bool.and_eq_true, beq_iff_eq, Bool.not_eq_true', decide_eq_true_eq] at h5
  obtain ⟨⟨⟨⟨⟨g1, g2⟩, g3⟩, g4⟩, g5⟩, g6⟩ := h5
  simp [Cond.before, Cond.holds, Cond.value, h1, h2, h3, h4, g1, g2, g3, g4, g5, g6]
def isCode : Jvm.Cond → Bool
  | .code _ _ _ _ => true
  | _ => false
theorem all_split {L : List Jvm.Cond} {P : Jvm.Cond → Bool} (h1 : L.all (fun c => isCode c || P c) = true) (h2 : ∀ c ∈ L.filter isCode, P c = true) : L.all P = true := by
  refine List.all_eq_true.mpr fun c hc => ?_
  have h := List.all_eq_true.mp h1 c hc
  rcases Bool.eq_false_or_eq_true (isCode c) with hi | hi
  · exact h2 c (List.mem_filter.mpr ⟨hc, hi⟩)
  · simpa [hi] using h
set_option maxRecDepth 65536 in
theorem w_c0 : (Jvm.Cond.code x code maxLocals ret).before args0 about1 = true := code_word (m := ⟨2, 1⟩) (meth := k2m1) (c := k2c1) (by decide +kernel) rfl rfl rfl (by decide +kernel)
set_option maxRecDepth 65536 in
theorem w_c1 : (Jvm.Cond.code ({ cls := "com/example/modelspan/modelspan/express/WalkedNodeMeetPinLaw", name := "<init>", desc := "()V" } : Jvm.MethodName) method_1_code (1 : Nat) (Option.none : Option Jvm.ClassFile.FieldType)).before args0 about1 = true := code_word (m := ⟨2, 0⟩) (meth := k2m0) (c := k2c0) (by decide +kernel) rfl rfl rfl (by decide +kernel)
set_option maxRecDepth 65536 in
theorem w_c2 : (Jvm.Cond.code ({ cls := "com/example/modelspan/modelspan/express/WalkedNode", name := "<init>", desc := "()V" } : Jvm.MethodName) prog_70_method_1_code (1 : Nat) (Option.none : Option Jvm.ClassFile.FieldType)).before args0 about1 = true := code_word (m := ⟨1, 0⟩) (meth := k1m0) (c := k1c0) (by decide +kernel) rfl rfl rfl (by decide +kernel)
set_option maxRecDepth 65536 in
theorem w_c3 : (Jvm.Cond.code ({ cls := "java/lang/Object", name := "<init>", desc := "()V" } : Jvm.MethodName) object_method_1_code (1 : Nat) (Option.none : Option Jvm.ClassFile.FieldType)).before args0 about1 = true := code_word (m := ⟨0, 0⟩) (meth := k0m0) (c := k0c0) (by decide +kernel) rfl rfl rfl (by decide +kernel)
set_option maxRecDepth 65536 in
theorem w_c4 : (Jvm.Cond.code ({ cls := "com/example/modelspan/modelspan/express/WalkedNode", name := "meet", desc := "(I)Z" } : Jvm.MethodName) prog_70_method_2_code (3 : Nat) (Option.some Jvm.ClassFile.FieldType.boolean)).before args0 about1 = true := code_word (m := ⟨1, 1⟩) (meth := k1m1) (c := k1c1) (by decide +kernel) rfl rfl rfl (by decide +kernel)
def codes1 : List Jvm.Cond := [Jvm.Cond.code x code maxLocals ret, Jvm.Cond.code ({ cls := "com/example/modelspan/modelspan/express/WalkedNodeMeetPinLaw", name := "<init>", desc := "()V" } : Jvm.MethodName) method_1_code (1 : Nat) (Option.none : Option Jvm.ClassFile.FieldType), Jvm.Cond.code ({ cls := "com/example/modelspan/modelspan/express/WalkedNode", name := "<init>", desc := "()V" } : Jvm.MethodName) prog_70_method_1_code (1 : Nat) (Option.none : Option Jvm.ClassFile.FieldType), Jvm.Cond.code ({ cls := "java/lang/Object", name := "<init>", desc := "()V" } : Jvm.MethodName) object_method_1_code (1 : Nat) (Option.none : Option Jvm.ClassFile.FieldType), Jvm.Cond.code ({ cls := "com/example/modelspan/modelspan/express/WalkedNode", name := "meet", desc := "(I)Z" } : Jvm.MethodName) prog_70_method_2_code (3 : Nat) (Option.some Jvm.ClassFile.FieldType.boolean)]
set_option maxRecDepth 65536 in
theorem codes_eq : words1.filter isCode = codes1 := rfl
theorem w_codes : ∀ c ∈ words1.filter isCode, c.before args0 about1 = true := by
  rw [codes_eq]
  intro c hc
  simp only [codes1, List.mem_cons, List.not_mem_nil, or_false] at hc
  rcases hc with rfl | rfl | rfl | rfl | rfl
  · exact w_c0
  · exact w_c1
  · exact w_c2
  · exact w_c3
  · exact w_c4
set_option maxRecDepth 65536 in
theorem w_t1 : words1.all (fun c => isCode c || c.before args0 about1) = true := by decide +kernel
theorem w_tables : (allAtoms (Jvm.Cond.code x code maxLocals ret :: tables_1)).before args0 about1 = true := by
  rw [allAtoms_all]
  show words1.all (fun c => c.before args0 about1) = true
  refine all_split ?_ w_codes
  rw [w_t1]
set_option maxRecDepth 65536 in
theorem w_case : (Jvm.Cond.and given_1 narrow_1).before args0 about1 = true := by decide +kernel
theorem w_applies : (headSpec (Jvm.Cond.code x code maxLocals ret :: tables_1) room_1).applies x e0.platform about1 = true :=
  (Spec.applies_iff w_frames).mpr ⟨w_running, w_runnable, w_alone, w_named, w_hears, w_ripe, w_room, w_tables⟩
theorem atStart : AtStart classFile x code maxLocals ret World_1 tables_1 room_1 Calls_1 rest_1 Pre_1 launch0 p0 e0 about1 theMethod args0 below0 :=
  ⟨lists_1, trivial, launch0.admits_env _ _ _, launch0.least_env, fairChoices_fair.cas, fairChoices_fair.clock, w_frames, w_args, w_heap, w_applies, trivial, trivial, w_case⟩
end start1
theorem witness_1 : WitnessClaimed_1 := ⟨start1.p0, start1.e0, start1.about1, start1.theMethod, start1.args0, start1.below0, start1.atStart⟩
end Jvm.Pilot.@@N@@
