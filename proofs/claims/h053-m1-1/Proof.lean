import JvmDerived
import JvmDerived.Pilot.@@N@@Statement
import JvmDerived.Pilot.@@N@@Code
set_option linter.unusedVariables false
set_option linter.unusedSimpArgs false
namespace Jvm.RoadKit
open Sem ClassFile Op Lib Jvm.Stand Jvm.Free Jvm.LawKit
section New
variable {p : Program} {l : Launch} {e : Env} {R : Room} {s : State} {m : MethodId} {args : Array Value} {below : List Frame} {meth : Method} {c : Code} {T : State} {locs : List Loc} {cells slots : Nat}
theorem retI (X : Stand p l e R s m args below meth c T locs cells slots) (hx : p.tables.exec = Jvm.exec) {pc : Nat} {Ls : Array Slot} {z : Int32} {rest : List Value} (hret : meth.sig.returnType = some .int) (hd : decode c.code pc = .ok (.ireturn, 1)) {fs : List Frame}
    (hl : ∀ (f : JFrame) (acts : List Action), f.method = m → f.locked = none → f.entered = [] → (doReturn e (T.setTop f) acts (some (.int z))).1 = T.setFrames fs) : Steps p.tables e below (T.setTop (mkF m pc Ls (.int z :: rest))) (T.setFrames fs) := by
  have hm' : T.vm.method? m = some meth := X.method'
  have hn : narrow .int (.int z) = .int z := rfl
  show Steps p.tables e below (T.setTop { method := m, pc := pc, locals := Ls, stack := _ :: rest, locked := none }) _
  jvm_step X.here [X.here.top, hx, hd, hm', hret, hn]
  first | (intro acts; rw [hl _ acts rfl rfl rfl]) | rw [hl _ _ rfl rfl rfl]
  exact Steps.refl _
end New
end Jvm.RoadKit
namespace Jvm.Pilot.@@N@@
open Jvm Jvm.ClassFile Sem Op Lib Jvm.Free Jvm.Stand Jvm.LawKit Jvm.RoadKit Bundle Jvm.Pilot.@@N@@.Jvm.D
theorem own_lt (a b : Int32) : a < b ↔ a.toInt < b.toInt := Int32.lt_iff_toInt_lt
theorem own_eq (a b : Int32) : a = b ↔ a.toInt = b.toInt := Int32.toInt_inj.symm
theorem own_getI (l : List Int32) (k : Nat) : (l.map Value.int).getD k (.int 0) = .int (l.getD k 0) := by
  induction l generalizing k with
  | nil => rfl
  | cons a t ih => cases k with
    | zero => rfl
    | succ k => exact ih k
theorem own_nv {z : Int32} (h : z = 0 ∨ z = 1) : narrow .boolean (.int z) = .int z := by rcases h with rfl | rfl <;> rfl
theorem own_fitb {z : Int32} (h : z = 0 ∨ z = 1) : fits .boolean (.int z) = true := by rcases h with rfl | rfl <;> rfl
theorem own_nar {z : Int32} (h : z = 0 ∨ z = 1) : nar .boolean z = z := by rcases h with rfl | rfl <;> rfl
def own_h (m t n : Int32) : Int32 := if m = 0 then 0 else if t = 0 then 0 else if n = 0 then 1 else 0
theorem own_pn2 : plainName "java/lang/Record" = true := by first | (simp [plainName, overriddenIn]; done) | decide +kernel
theorem own_pn1 : plainName "com/example/shardwright/shardwright/workload/BikeShareAudit" = true := by first | (simp [plainName, overriddenIn]; done) | decide +kernel
theorem own_pd0 : parseMethodDescriptor "()V" = some ⟨[], none⟩ := by decide +kernel
theorem own_pn4 : plainName "com/example/shardwright/shardwright/workload/BikeShareAudit" = true := by first | (simp [plainName, overriddenIn]; done) | decide +kernel
theorem own_pn0 : plainName "com/example/shardwright/shardwright/workload/BikeShareAuditHoldsPinLaw" = true := by first | (simp [plainName, overriddenIn]; done) | decide +kernel
theorem own_pd1 : parseMethodDescriptor "(IIIIZZI)V" = some ⟨[.int, .int, .int, .int, .boolean, .boolean, .int], none⟩ := by decide +kernel
theorem own_pd2 : parseMethodDescriptor "()Z" = some ⟨[], some .boolean⟩ := by decide +kernel
theorem own_d2_0 : decode jdk_30_method_1_code 0 = .ok (.aload_n 0, 1) := by decide +kernel
theorem own_d2_1 : decode jdk_30_method_1_code 1 = .ok (.invokespecial 1, 3) := by decide +kernel
theorem own_d2_4 : decode jdk_30_method_1_code 4 = .ok (.return_, 1) := by decide +kernel
theorem own_ef2 (m : MethodId) (x0 : Addr) : entryFrame m #[(.ref x0)] 1 = mkF m 0 #[.val (.ref x0)] [] := by first | (simp [entryFrame, mkF, argsToLocals, Value.category]; done) | rfl
def own_Q2 (Z : State) (a1 : Addr) (h0 : Heap) (n0 : Nat) (v : Option Value) (h : Heap) (L : List Loc) : Prop := v = none ∧ Fr n0 L ∧ h = h0
set_option maxRecDepth 65536 in
set_option maxHeartbeats 40000000 in
theorem rm2 (l : Launch) (Z : State) (a0 : Array Value) (hw : ∀ d ∈ tables_1, d.before a0 Z = true) (ws : List Jvm.Cond) (a1 : Addr) (h0 : Heap) (n0 : Nat) (Z0 : n0 ≤ h0.size)  :
    MetFree l (⟨"java/lang/Record", "<init>", "()V"⟩ : MethodName) (head1 (Jvm.Cond.code (⟨"java/lang/Record", "<init>", "()V"⟩ : MethodName) jdk_30_method_1_code 1 none :: ws) ({ frames := 1, cells := 0, slots := 0, locals := 12 } : Room)) (fun a U => a = #[(.ref a1)] ∧ Z.Warmed39 U.vm ∧ U.heap = h0) (fun _ _ _ _ _ => True) (fun _ U o U' => ∃ v L, o = .returned v ∧ own_Q2 Z a1 h0 n0 v U'.heap L ∧ FrameEnd U o U' L ({ frames := 1, cells := 0, slots := 0, locals := 12 } : Room).cells ({ frames := 1, cells := 0, slots := 0, locals := 12 } : Room).slots) := by
  refine MetFree.of_bodySF (plainFor_of_name own_pn2) hisR ?_
  intro p e s m args below meth c s₁ Bd hml0 hP hK
  obtain ⟨rfl, hZ, hh⟩ := hP
  have hx := Bd.exec
  have hby := Bd.bytes
  have hml : c.maxLocals = 1 := hml0
  have hown : s.vm.findClass "java/lang/Record" = some m.cls := findClass_of_methodNamed Bd.named
  have hnm := (name_of_methodNamed Bd.named Bd.method).1
  have X0 : Stand p l e ({ frames := 1, cells := 0, slots := 0, locals := 12 } : Room) s m #[(.ref a1)] below meth c s₁ [] 0 0 := Stand.of_body Bd
  have e0 : s₁.heap = h0 := by rw [← hh, Bd.state]; rfl
  have N0 := Fr.nil n0
  have pre0 : ∀ t, Steps p.tables e below (s₁.setTop (mkF m 0 #[.val (.ref a1)] [])) t → Steps p.tables e below (s₁.setTop (entryFrame m #[(.ref a1)] 1)) t := fun t k => castTop (own_ef2 m a1) k
  obtain ⟨T1, X1, e1, st1⟩ := initO X0 hx hZ hown (hw _ (List.mem_of_getElem? (i := 11) rfl)) (hw _ (List.mem_of_getElem? (i := 12) rfl)) (hw _ (List.mem_of_getElem? (i := 13) rfl)) e0 (g := (mkF m 1 #[.val (.ref a1)] [(.ref a1)])) rfl (by rw [hml]; rfl) rfl (hb hby own_d2_1) (by decide) (W := 0) (by show 2 * 0 + _ ≤ _; exact Nat.le_of_eq rfl) (by decide)
  have pre2 : ∀ t, Steps p.tables e below (T1.setTop (mkF m 4 #[.val (.ref a1)] [])) t → Steps p.tables e below (s₁.setTop (entryFrame m #[(.ref a1)] 1)) t := by
    intro t k
    refine pre0 _ ?_
    show Steps p.tables e below (s₁.setTop (mkF m 0 #[.val (.ref a1)] [])) _
    refine XS.aloadN X0.here hx rfl (hb hby own_d2_0) rfl rfl ?_
    show Steps p.tables e below (s₁.setTop (mkF m 1 #[.val (.ref a1)] [(.ref a1)])) _
    refine st1 _ ?_
    exact k
  obtain ⟨fs, hr, hrun, hended, hW, hsame⟩ := X1.leave (v := none) (fun _ => rfl)
  refine ⟨_, _, pre2 _ ?_, hrun, hended, _, _, rfl, ?_, ⟨_, rfl⟩, hW, hsame.mono (by decide) (by decide)⟩
  · show Steps p.tables e below (T1.setTop (mkF m 4 #[.val (.ref a1)] [])) _
    exact X1.returnOut hx Bd.returns (hb hby own_d2_4) hr
  · show own_Q2 Z a1 h0 n0 _ T1.heap _
    rw [e1]
    exact ⟨rfl, N0, rfl⟩
theorem own_d1_0 : decode prog_192_method_1_code 0 = .ok (.aload_n 0, 1) := by decide +kernel
theorem own_d1_1 : decode prog_192_method_1_code 1 = .ok (.invokespecial 1, 3) := by decide +kernel
theorem own_d1_4 : decode prog_192_method_1_code 4 = .ok (.aload_n 0, 1) := by decide +kernel
theorem own_d1_5 : decode prog_192_method_1_code 5 = .ok (.iload_n 1, 1) := by decide +kernel
theorem own_d1_6 : decode prog_192_method_1_code 6 = .ok (.putfield 7, 3) := by decide +kernel
theorem own_d1_9 : decode prog_192_method_1_code 9 = .ok (.aload_n 0, 1) := by decide +kernel
theorem own_d1_10 : decode prog_192_method_1_code 10 = .ok (.iload_n 2, 1) := by decide +kernel
theorem own_d1_11 : decode prog_192_method_1_code 11 = .ok (.putfield 13, 3) := by decide +kernel
theorem own_d1_14 : decode prog_192_method_1_code 14 = .ok (.aload_n 0, 1) := by decide +kernel
theorem own_d1_15 : decode prog_192_method_1_code 15 = .ok (.iload_n 3, 1) := by decide +kernel
theorem own_d1_16 : decode prog_192_method_1_code 16 = .ok (.putfield 16, 3) := by decide +kernel
theorem own_d1_19 : decode prog_192_method_1_code 19 = .ok (.aload_n 0, 1) := by decide +kernel
theorem own_d1_20 : decode prog_192_method_1_code 20 = .ok (.iload 4, 2) := by decide +kernel
theorem own_d1_22 : decode prog_192_method_1_code 22 = .ok (.putfield 19, 3) := by decide +kernel
theorem own_d1_25 : decode prog_192_method_1_code 25 = .ok (.aload_n 0, 1) := by decide +kernel
theorem own_d1_26 : decode prog_192_method_1_code 26 = .ok (.iload 5, 2) := by decide +kernel
theorem own_d1_28 : decode prog_192_method_1_code 28 = .ok (.putfield 22, 3) := by decide +kernel
theorem own_d1_31 : decode prog_192_method_1_code 31 = .ok (.aload_n 0, 1) := by decide +kernel
theorem own_d1_32 : decode prog_192_method_1_code 32 = .ok (.iload 6, 2) := by decide +kernel
theorem own_d1_34 : decode prog_192_method_1_code 34 = .ok (.putfield 26, 3) := by decide +kernel
theorem own_d1_37 : decode prog_192_method_1_code 37 = .ok (.aload_n 0, 1) := by decide +kernel
theorem own_d1_38 : decode prog_192_method_1_code 38 = .ok (.iload 7, 2) := by decide +kernel
theorem own_d1_40 : decode prog_192_method_1_code 40 = .ok (.putfield 29, 3) := by decide +kernel
theorem own_d1_43 : decode prog_192_method_1_code 43 = .ok (.return_, 1) := by decide +kernel
theorem own_ef1 (m : MethodId) (x0 : Addr) (x1 : Int32) (x2 : Int32) (x3 : Int32) (x4 : Int32) (x5 : Int32) (x6 : Int32) (x7 : Int32) : entryFrame m #[(.ref x0), (.int x1), (.int x2), (.int x3), (.int x4), (.int x5), (.int x6), (.int x7)] 8 = mkF m 0 #[.val (.ref x0), .val (.int x1), .val (.int x2), .val (.int x3), .val (.int x4), .val (.int x5), .val (.int x6), .val (.int x7)] [] := by first | (simp [entryFrame, mkF, argsToLocals, Value.category]; done) | rfl
def own_Q1 (Z : State) (a1 : Addr) (p2 : Int32) (p3 : Int32) (p4 : Int32) (p5 : Int32) (p6 : Int32) (p7 : Int32) (p8 : Int32) (u0 : Value) (u1 : Value) (u2 : Value) (u3 : Value) (u4 : Value) (u5 : Value) (u6 : Value) (h0 : Heap) (n0 : Nat) (v : Option Value) (h : Heap) (L : List Loc) : Prop := v = none ∧ Fr n0 L ∧ Keep h0 h [a1] ∧ Exa Z h a1 "com/example/shardwright/shardwright/workload/BikeShareAudit" ∧ Fld Z h a1 "com/example/shardwright/shardwright/workload/BikeShareAudit" "users" "I" (.int p2) ∧ Fld Z h a1 "com/example/shardwright/shardwright/workload/BikeShareAudit" "bikes" "I" (.int p3) ∧ Fld Z h a1 "com/example/shardwright/shardwright/workload/BikeShareAudit" "riding" "I" (.int p4) ∧ Fld Z h a1 "com/example/shardwright/shardwright/workload/BikeShareAudit" "openTrips" "I" (.int p5) ∧ Fld Z h a1 "com/example/shardwright/shardwright/workload/BikeShareAudit" "money" "Z" (.int p6) ∧ Fld Z h a1 "com/example/shardwright/shardwright/workload/BikeShareAudit" "trips" "Z" (.int p7) ∧ Fld Z h a1 "com/example/shardwright/shardwright/workload/BikeShareAudit" "negative" "I" (.int p8)
set_option maxRecDepth 65536 in
set_option maxHeartbeats 40000000 in
theorem rm1 (l : Launch) (Z : State) (a0 : Array Value) (hw : ∀ d ∈ tables_1, d.before a0 Z = true) (ws : List Jvm.Cond) (a1 : Addr) (p2 : Int32) (p3 : Int32) (p4 : Int32) (p5 : Int32) (p6 : Int32) (p7 : Int32) (p8 : Int32) (u0 : Value) (u1 : Value) (u2 : Value) (u3 : Value) (u4 : Value) (u5 : Value) (u6 : Value) (h0 : Heap) (n0 : Nat) (Z0 : n0 ≤ h0.size) (E_a1 : Exa Z h0 a1 "com/example/shardwright/shardwright/workload/BikeShareAudit") (F_users_a1 : Fld Z h0 a1 "com/example/shardwright/shardwright/workload/BikeShareAudit" "users" "I" u0) (F_bikes_a1 : Fld Z h0 a1 "com/example/shardwright/shardwright/workload/BikeShareAudit" "bikes" "I" u1) (F_riding_a1 : Fld Z h0 a1 "com/example/shardwright/shardwright/workload/BikeShareAudit" "riding" "I" u2) (F_openTrips_a1 : Fld Z h0 a1 "com/example/shardwright/shardwright/workload/BikeShareAudit" "openTrips" "I" u3) (F_money_a1 : Fld Z h0 a1 "com/example/shardwright/shardwright/workload/BikeShareAudit" "money" "Z" u4) (F_trips_a1 : Fld Z h0 a1 "com/example/shardwright/shardwright/workload/BikeShareAudit" "trips" "Z" u5) (F_negative_a1 : Fld Z h0 a1 "com/example/shardwright/shardwright/workload/BikeShareAudit" "negative" "I" u6) (g_a1 : n0 ≤ a1) (bool_p6 : p6 = 0 ∨ p6 = 1) (bool_p7 : p7 = 0 ∨ p7 = 1) :
    MetFree l (⟨"com/example/shardwright/shardwright/workload/BikeShareAudit", "<init>", "(IIIIZZI)V"⟩ : MethodName) (head1 (Jvm.Cond.code (⟨"com/example/shardwright/shardwright/workload/BikeShareAudit", "<init>", "(IIIIZZI)V"⟩ : MethodName) prog_192_method_1_code 8 none :: ws) ({ frames := 2, cells := 0, slots := 0, locals := 24 } : Room)) (fun a U => a = #[(.ref a1), (.int p2), (.int p3), (.int p4), (.int p5), (.int p6), (.int p7), (.int p8)] ∧ Z.Warmed39 U.vm ∧ U.heap = h0) (fun _ _ _ _ _ => True) (fun _ U o U' => ∃ v L, o = .returned v ∧ own_Q1 Z a1 p2 p3 p4 p5 p6 p7 p8 u0 u1 u2 u3 u4 u5 u6 h0 n0 v U'.heap L ∧ FrameEnd U o U' L ({ frames := 2, cells := 0, slots := 0, locals := 24 } : Room).cells ({ frames := 2, cells := 0, slots := 0, locals := 24 } : Room).slots) := by
  refine MetFree.of_bodySF (plainFor_of_name own_pn1) hisR ?_
  intro p e s m args below meth c s₁ Bd hml0 hP hK
  obtain ⟨rfl, hZ, hh⟩ := hP
  have hx := Bd.exec
  have hby := Bd.bytes
  have hml : c.maxLocals = 8 := hml0
  have hown : s.vm.findClass "com/example/shardwright/shardwright/workload/BikeShareAudit" = some m.cls := findClass_of_methodNamed Bd.named
  have hnm := (name_of_methodNamed Bd.named Bd.method).1
  have X0 : Stand p l e ({ frames := 2, cells := 0, slots := 0, locals := 24 } : Room) s m #[(.ref a1), (.int p2), (.int p3), (.int p4), (.int p5), (.int p6), (.int p7), (.int p8)] below meth c s₁ [] 0 0 := Stand.of_body Bd
  have e0 : s₁.heap = h0 := by rw [← hh, Bd.state]; rfl
  have N0 := Fr.nil n0
  have pre0 : ∀ t, Steps p.tables e below (s₁.setTop (mkF m 0 #[.val (.ref a1), .val (.int p2), .val (.int p3), .val (.int p4), .val (.int p5), .val (.int p6), .val (.int p7), .val (.int p8)] [])) t → Steps p.tables e below (s₁.setTop (entryFrame m #[(.ref a1), (.int p2), (.int p3), (.int p4), (.int p5), (.int p6), (.int p7), (.int p8)] 8)) t := fun t k => castTop (own_ef1 m a1 p2 p3 p4 p5 p6 p7 p8) k
  have K0 := Keep.refl h0 [a1]
  obtain ⟨_, _, ⟨T1, L1, k1, n1⟩, -, X1, ⟨Lc1, hQ1, l1, y1, z1⟩, st1⟩ := X0.specialBack hx (y := (⟨"java/lang/Record", "<init>", "()V"⟩ : MethodName)) rfl hown (mvT hZ (hw _ (List.mem_of_getElem? (i := 6) rfl))) (mvT hZ (hw _ (List.mem_of_getElem? (i := 7) rfl))) (mvT hZ (hw _ (List.mem_of_getElem? (i := 10) rfl))) (by decide) (backOf (W := 0) (rm2 l Z a0 hw [] a1  h0 n0 Z0 ) hZ (hw _ (List.mem_of_getElem? (i := 10) rfl)) (hw _ (List.mem_of_getElem? (i := 9) rfl)) (by decide) (by decide)) (g := (mkF m 1 #[.val (.ref a1), .val (.int p2), .val (.int p3), .val (.int p4), .val (.int p5), .val (.int p6), .val (.int p7), .val (.int p8)] [(.ref a1)])) rfl (by rw [hml]; rfl) (Steps.refl _) (a := a1) (argsL := []) (rest := []) (lenOf own_pd0 rfl) rfl (by show 2 * 0 + _ ≤ _; exact Nat.le_of_eq rfl) (hb hby own_d1_1) (fun _ _ => ⟨rfl, e0, (by decide : 0 + 0 ≤ _), (by decide : 0 + 0 ≤ _)⟩)
  dsimp only [Pt.U, Pt.locs, Pt.cells, Pt.slots] at X1 l1 y1 z1 st1 hQ1
  subst l1 y1 z1
  obtain ⟨rfl, N1q, e1⟩ := hQ1
  have N1 := Fr.app N0 N1q
  obtain ⟨T2, h2, X2, e2, W2, st2⟩ := putF X1 hx hZ hown (host := "") (Or.inl (hw _ (List.mem_of_getElem? (i := 14) rfl))) Via.refl e1 F_users_a1 E_a1 (Or.inr ⟨(hw _ (List.mem_of_getElem? (i := 15) rfl)), rfl, hnm⟩) (hw _ (List.mem_of_getElem? (i := 1) rfl)) (ty := .int) (by decide) rfl rfl (g := (mkF m 6 #[.val (.ref a1), .val (.int p2), .val (.int p3), .val (.int p4), .val (.int p5), .val (.int p6), .val (.int p7), .val (.int p8)] [(.int p2), (.ref a1)])) rfl rfl (hb hby own_d1_6)
  have E_a1 := E_a1.wr W2
  have F_bikes_a1 := F_bikes_a1.other W2 (Or.inr (slot_ne (Or.inr (hw _ (List.mem_of_getElem? (i := 17) rfl))) (Or.inr (hw _ (List.mem_of_getElem? (i := 15) rfl))) (by decide) (t := .int) (t' := .int) (by decide) (by decide)))
  have F_riding_a1 := F_riding_a1.other W2 (Or.inr (slot_ne (Or.inr (hw _ (List.mem_of_getElem? (i := 19) rfl))) (Or.inr (hw _ (List.mem_of_getElem? (i := 15) rfl))) (by decide) (t := .int) (t' := .int) (by decide) (by decide)))
  have F_openTrips_a1 := F_openTrips_a1.other W2 (Or.inr (slot_ne (Or.inr (hw _ (List.mem_of_getElem? (i := 21) rfl))) (Or.inr (hw _ (List.mem_of_getElem? (i := 15) rfl))) (by decide) (t := .int) (t' := .int) (by decide) (by decide)))
  have F_money_a1 := F_money_a1.other W2 (Or.inr (slot_ne (Or.inr (hw _ (List.mem_of_getElem? (i := 23) rfl))) (Or.inr (hw _ (List.mem_of_getElem? (i := 15) rfl))) (by decide) (t := .boolean) (t' := .int) (by decide) (by decide)))
  have F_trips_a1 := F_trips_a1.other W2 (Or.inr (slot_ne (Or.inr (hw _ (List.mem_of_getElem? (i := 25) rfl))) (Or.inr (hw _ (List.mem_of_getElem? (i := 15) rfl))) (by decide) (t := .boolean) (t' := .int) (by decide) (by decide)))
  have F_negative_a1 := F_negative_a1.other W2 (Or.inr (slot_ne (Or.inr (hw _ (List.mem_of_getElem? (i := 27) rfl))) (Or.inr (hw _ (List.mem_of_getElem? (i := 15) rfl))) (by decide) (t := .int) (t' := .int) (by decide) (by decide)))
  have Z2 : n0 ≤ h2.size := Nat.le_trans Z0 (Keep.of_wr W2).1
  have K2 := K0.wr W2 (Or.inl (List.mem_of_getElem? (i := 0) rfl))
  have N2 := Fr.snoc X2 N1 g_a1
  have F_users_a1 : Fld Z h2 a1 "com/example/shardwright/shardwright/workload/BikeShareAudit" "users" "I" (.int p2) := F_users_a1.same W2
  obtain ⟨T3, h3, X3, e3, W3, st3⟩ := putF X2 hx hZ hown (host := "") (Or.inl (hw _ (List.mem_of_getElem? (i := 16) rfl))) Via.refl e2 F_bikes_a1 E_a1 (Or.inr ⟨(hw _ (List.mem_of_getElem? (i := 17) rfl)), rfl, hnm⟩) (hw _ (List.mem_of_getElem? (i := 1) rfl)) (ty := .int) (by decide) rfl rfl (g := (mkF m 11 #[.val (.ref a1), .val (.int p2), .val (.int p3), .val (.int p4), .val (.int p5), .val (.int p6), .val (.int p7), .val (.int p8)] [(.int p3), (.ref a1)])) rfl rfl (hb hby own_d1_11)
  have E_a1 := E_a1.wr W3
  have F_users_a1 := F_users_a1.other W3 (Or.inr (slot_ne (Or.inr (hw _ (List.mem_of_getElem? (i := 15) rfl))) (Or.inr (hw _ (List.mem_of_getElem? (i := 17) rfl))) (by decide) (t := .int) (t' := .int) (by decide) (by decide)))
  have F_riding_a1 := F_riding_a1.other W3 (Or.inr (slot_ne (Or.inr (hw _ (List.mem_of_getElem? (i := 19) rfl))) (Or.inr (hw _ (List.mem_of_getElem? (i := 17) rfl))) (by decide) (t := .int) (t' := .int) (by decide) (by decide)))
  have F_openTrips_a1 := F_openTrips_a1.other W3 (Or.inr (slot_ne (Or.inr (hw _ (List.mem_of_getElem? (i := 21) rfl))) (Or.inr (hw _ (List.mem_of_getElem? (i := 17) rfl))) (by decide) (t := .int) (t' := .int) (by decide) (by decide)))
  have F_money_a1 := F_money_a1.other W3 (Or.inr (slot_ne (Or.inr (hw _ (List.mem_of_getElem? (i := 23) rfl))) (Or.inr (hw _ (List.mem_of_getElem? (i := 17) rfl))) (by decide) (t := .boolean) (t' := .int) (by decide) (by decide)))
  have F_trips_a1 := F_trips_a1.other W3 (Or.inr (slot_ne (Or.inr (hw _ (List.mem_of_getElem? (i := 25) rfl))) (Or.inr (hw _ (List.mem_of_getElem? (i := 17) rfl))) (by decide) (t := .boolean) (t' := .int) (by decide) (by decide)))
  have F_negative_a1 := F_negative_a1.other W3 (Or.inr (slot_ne (Or.inr (hw _ (List.mem_of_getElem? (i := 27) rfl))) (Or.inr (hw _ (List.mem_of_getElem? (i := 17) rfl))) (by decide) (t := .int) (t' := .int) (by decide) (by decide)))
  have Z3 : n0 ≤ h3.size := Nat.le_trans Z2 (Keep.of_wr W3).1
  have K3 := K2.wr W3 (Or.inl (List.mem_of_getElem? (i := 0) rfl))
  have N3 := Fr.snoc X3 N2 g_a1
  have F_bikes_a1 : Fld Z h3 a1 "com/example/shardwright/shardwright/workload/BikeShareAudit" "bikes" "I" (.int p3) := F_bikes_a1.same W3
  obtain ⟨T4, h4, X4, e4, W4, st4⟩ := putF X3 hx hZ hown (host := "") (Or.inl (hw _ (List.mem_of_getElem? (i := 18) rfl))) Via.refl e3 F_riding_a1 E_a1 (Or.inr ⟨(hw _ (List.mem_of_getElem? (i := 19) rfl)), rfl, hnm⟩) (hw _ (List.mem_of_getElem? (i := 1) rfl)) (ty := .int) (by decide) rfl rfl (g := (mkF m 16 #[.val (.ref a1), .val (.int p2), .val (.int p3), .val (.int p4), .val (.int p5), .val (.int p6), .val (.int p7), .val (.int p8)] [(.int p4), (.ref a1)])) rfl rfl (hb hby own_d1_16)
  have E_a1 := E_a1.wr W4
  have F_users_a1 := F_users_a1.other W4 (Or.inr (slot_ne (Or.inr (hw _ (List.mem_of_getElem? (i := 15) rfl))) (Or.inr (hw _ (List.mem_of_getElem? (i := 19) rfl))) (by decide) (t := .int) (t' := .int) (by decide) (by decide)))
  have F_bikes_a1 := F_bikes_a1.other W4 (Or.inr (slot_ne (Or.inr (hw _ (List.mem_of_getElem? (i := 17) rfl))) (Or.inr (hw _ (List.mem_of_getElem? (i := 19) rfl))) (by decide) (t := .int) (t' := .int) (by decide) (by decide)))
  have F_openTrips_a1 := F_openTrips_a1.other W4 (Or.inr (slot_ne (Or.inr (hw _ (List.mem_of_getElem? (i := 21) rfl))) (Or.inr (hw _ (List.mem_of_getElem? (i := 19) rfl))) (by decide) (t := .int) (t' := .int) (by decide) (by decide)))
  have F_money_a1 := F_money_a1.other W4 (Or.inr (slot_ne (Or.inr (hw _ (List.mem_of_getElem? (i := 23) rfl))) (Or.inr (hw _ (List.mem_of_getElem? (i := 19) rfl))) (by decide) (t := .boolean) (t' := .int) (by decide) (by decide)))
  have F_trips_a1 := F_trips_a1.other W4 (Or.inr (slot_ne (Or.inr (hw _ (List.mem_of_getElem? (i := 25) rfl))) (Or.inr (hw _ (List.mem_of_getElem? (i := 19) rfl))) (by decide) (t := .boolean) (t' := .int) (by decide) (by decide)))
  have F_negative_a1 := F_negative_a1.other W4 (Or.inr (slot_ne (Or.inr (hw _ (List.mem_of_getElem? (i := 27) rfl))) (Or.inr (hw _ (List.mem_of_getElem? (i := 19) rfl))) (by decide) (t := .int) (t' := .int) (by decide) (by decide)))
  have Z4 : n0 ≤ h4.size := Nat.le_trans Z3 (Keep.of_wr W4).1
  have K4 := K3.wr W4 (Or.inl (List.mem_of_getElem? (i := 0) rfl))
  have N4 := Fr.snoc X4 N3 g_a1
  have F_riding_a1 : Fld Z h4 a1 "com/example/shardwright/shardwright/workload/BikeShareAudit" "riding" "I" (.int p4) := F_riding_a1.same W4
  obtain ⟨T5, h5, X5, e5, W5, st5⟩ := putF X4 hx hZ hown (host := "") (Or.inl (hw _ (List.mem_of_getElem? (i := 20) rfl))) Via.refl e4 F_openTrips_a1 E_a1 (Or.inr ⟨(hw _ (List.mem_of_getElem? (i := 21) rfl)), rfl, hnm⟩) (hw _ (List.mem_of_getElem? (i := 1) rfl)) (ty := .int) (by decide) rfl rfl (g := (mkF m 22 #[.val (.ref a1), .val (.int p2), .val (.int p3), .val (.int p4), .val (.int p5), .val (.int p6), .val (.int p7), .val (.int p8)] [(.int p5), (.ref a1)])) rfl rfl (hb hby own_d1_22)
  have E_a1 := E_a1.wr W5
  have F_users_a1 := F_users_a1.other W5 (Or.inr (slot_ne (Or.inr (hw _ (List.mem_of_getElem? (i := 15) rfl))) (Or.inr (hw _ (List.mem_of_getElem? (i := 21) rfl))) (by decide) (t := .int) (t' := .int) (by decide) (by decide)))
  have F_bikes_a1 := F_bikes_a1.other W5 (Or.inr (slot_ne (Or.inr (hw _ (List.mem_of_getElem? (i := 17) rfl))) (Or.inr (hw _ (List.mem_of_getElem? (i := 21) rfl))) (by decide) (t := .int) (t' := .int) (by decide) (by decide)))
  have F_riding_a1 := F_riding_a1.other W5 (Or.inr (slot_ne (Or.inr (hw _ (List.mem_of_getElem? (i := 19) rfl))) (Or.inr (hw _ (List.mem_of_getElem? (i := 21) rfl))) (by decide) (t := .int) (t' := .int) (by decide) (by decide)))
  have F_money_a1 := F_money_a1.other W5 (Or.inr (slot_ne (Or.inr (hw _ (List.mem_of_getElem? (i := 23) rfl))) (Or.inr (hw _ (List.mem_of_getElem? (i := 21) rfl))) (by decide) (t := .boolean) (t' := .int) (by decide) (by decide)))
  have F_trips_a1 := F_trips_a1.other W5 (Or.inr (slot_ne (Or.inr (hw _ (List.mem_of_getElem? (i := 25) rfl))) (Or.inr (hw _ (List.mem_of_getElem? (i := 21) rfl))) (by decide) (t := .boolean) (t' := .int) (by decide) (by decide)))
  have F_negative_a1 := F_negative_a1.other W5 (Or.inr (slot_ne (Or.inr (hw _ (List.mem_of_getElem? (i := 27) rfl))) (Or.inr (hw _ (List.mem_of_getElem? (i := 21) rfl))) (by decide) (t := .int) (t' := .int) (by decide) (by decide)))
  have Z5 : n0 ≤ h5.size := Nat.le_trans Z4 (Keep.of_wr W5).1
  have K5 := K4.wr W5 (Or.inl (List.mem_of_getElem? (i := 0) rfl))
  have N5 := Fr.snoc X5 N4 g_a1
  have F_openTrips_a1 : Fld Z h5 a1 "com/example/shardwright/shardwright/workload/BikeShareAudit" "openTrips" "I" (.int p5) := F_openTrips_a1.same W5
  obtain ⟨T6, h6, X6, e6, W6, st6⟩ := putFN X5 hx hZ hown (hw _ (List.mem_of_getElem? (i := 22) rfl)) Via.refl e5 F_money_a1 E_a1 (Or.inr ⟨(hw _ (List.mem_of_getElem? (i := 23) rfl)), rfl, hnm⟩) (hw _ (List.mem_of_getElem? (i := 1) rfl)) (ty := .boolean) (v' := (.int p6)) (by decide) (own_nv bool_p6) (own_fitb bool_p6) (g := (mkF m 28 #[.val (.ref a1), .val (.int p2), .val (.int p3), .val (.int p4), .val (.int p5), .val (.int p6), .val (.int p7), .val (.int p8)] [(.int p6), (.ref a1)])) rfl rfl (hb hby own_d1_28)
  have E_a1 := E_a1.wr W6
  have F_users_a1 := F_users_a1.other W6 (Or.inr (slot_ne (Or.inr (hw _ (List.mem_of_getElem? (i := 15) rfl))) (Or.inr (hw _ (List.mem_of_getElem? (i := 23) rfl))) (by decide) (t := .int) (t' := .boolean) (by decide) (by decide)))
  have F_bikes_a1 := F_bikes_a1.other W6 (Or.inr (slot_ne (Or.inr (hw _ (List.mem_of_getElem? (i := 17) rfl))) (Or.inr (hw _ (List.mem_of_getElem? (i := 23) rfl))) (by decide) (t := .int) (t' := .boolean) (by decide) (by decide)))
  have F_riding_a1 := F_riding_a1.other W6 (Or.inr (slot_ne (Or.inr (hw _ (List.mem_of_getElem? (i := 19) rfl))) (Or.inr (hw _ (List.mem_of_getElem? (i := 23) rfl))) (by decide) (t := .int) (t' := .boolean) (by decide) (by decide)))
  have F_openTrips_a1 := F_openTrips_a1.other W6 (Or.inr (slot_ne (Or.inr (hw _ (List.mem_of_getElem? (i := 21) rfl))) (Or.inr (hw _ (List.mem_of_getElem? (i := 23) rfl))) (by decide) (t := .int) (t' := .boolean) (by decide) (by decide)))
  have F_trips_a1 := F_trips_a1.other W6 (Or.inr (slot_ne (Or.inr (hw _ (List.mem_of_getElem? (i := 25) rfl))) (Or.inr (hw _ (List.mem_of_getElem? (i := 23) rfl))) (by decide) (t := .boolean) (t' := .boolean) (by decide) (by decide)))
  have F_negative_a1 := F_negative_a1.other W6 (Or.inr (slot_ne (Or.inr (hw _ (List.mem_of_getElem? (i := 27) rfl))) (Or.inr (hw _ (List.mem_of_getElem? (i := 23) rfl))) (by decide) (t := .int) (t' := .boolean) (by decide) (by decide)))
  have Z6 : n0 ≤ h6.size := Nat.le_trans Z5 (Keep.of_wr W6).1
  have K6 := K5.wr W6 (Or.inl (List.mem_of_getElem? (i := 0) rfl))
  have N6 := Fr.snoc X6 N5 g_a1
  have F_money_a1 : Fld Z h6 a1 "com/example/shardwright/shardwright/workload/BikeShareAudit" "money" "Z" (.int p6) := F_money_a1.same W6
  obtain ⟨T7, h7, X7, e7, W7, st7⟩ := putFN X6 hx hZ hown (hw _ (List.mem_of_getElem? (i := 24) rfl)) Via.refl e6 F_trips_a1 E_a1 (Or.inr ⟨(hw _ (List.mem_of_getElem? (i := 25) rfl)), rfl, hnm⟩) (hw _ (List.mem_of_getElem? (i := 1) rfl)) (ty := .boolean) (v' := (.int p7)) (by decide) (own_nv bool_p7) (own_fitb bool_p7) (g := (mkF m 34 #[.val (.ref a1), .val (.int p2), .val (.int p3), .val (.int p4), .val (.int p5), .val (.int p6), .val (.int p7), .val (.int p8)] [(.int p7), (.ref a1)])) rfl rfl (hb hby own_d1_34)
  have E_a1 := E_a1.wr W7
  have F_users_a1 := F_users_a1.other W7 (Or.inr (slot_ne (Or.inr (hw _ (List.mem_of_getElem? (i := 15) rfl))) (Or.inr (hw _ (List.mem_of_getElem? (i := 25) rfl))) (by decide) (t := .int) (t' := .boolean) (by decide) (by decide)))
  have F_bikes_a1 := F_bikes_a1.other W7 (Or.inr (slot_ne (Or.inr (hw _ (List.mem_of_getElem? (i := 17) rfl))) (Or.inr (hw _ (List.mem_of_getElem? (i := 25) rfl))) (by decide) (t := .int) (t' := .boolean) (by decide) (by decide)))
  have F_riding_a1 := F_riding_a1.other W7 (Or.inr (slot_ne (Or.inr (hw _ (List.mem_of_getElem? (i := 19) rfl))) (Or.inr (hw _ (List.mem_of_getElem? (i := 25) rfl))) (by decide) (t := .int) (t' := .boolean) (by decide) (by decide)))
  have F_openTrips_a1 := F_openTrips_a1.other W7 (Or.inr (slot_ne (Or.inr (hw _ (List.mem_of_getElem? (i := 21) rfl))) (Or.inr (hw _ (List.mem_of_getElem? (i := 25) rfl))) (by decide) (t := .int) (t' := .boolean) (by decide) (by decide)))
  have F_money_a1 := F_money_a1.other W7 (Or.inr (slot_ne (Or.inr (hw _ (List.mem_of_getElem? (i := 23) rfl))) (Or.inr (hw _ (List.mem_of_getElem? (i := 25) rfl))) (by decide) (t := .boolean) (t' := .boolean) (by decide) (by decide)))
  have F_negative_a1 := F_negative_a1.other W7 (Or.inr (slot_ne (Or.inr (hw _ (List.mem_of_getElem? (i := 27) rfl))) (Or.inr (hw _ (List.mem_of_getElem? (i := 25) rfl))) (by decide) (t := .int) (t' := .boolean) (by decide) (by decide)))
  have Z7 : n0 ≤ h7.size := Nat.le_trans Z6 (Keep.of_wr W7).1
  have K7 := K6.wr W7 (Or.inl (List.mem_of_getElem? (i := 0) rfl))
  have N7 := Fr.snoc X7 N6 g_a1
  have F_trips_a1 : Fld Z h7 a1 "com/example/shardwright/shardwright/workload/BikeShareAudit" "trips" "Z" (.int p7) := F_trips_a1.same W7
  obtain ⟨T8, h8, X8, e8, W8, st8⟩ := putF X7 hx hZ hown (host := "") (Or.inl (hw _ (List.mem_of_getElem? (i := 26) rfl))) Via.refl e7 F_negative_a1 E_a1 (Or.inr ⟨(hw _ (List.mem_of_getElem? (i := 27) rfl)), rfl, hnm⟩) (hw _ (List.mem_of_getElem? (i := 1) rfl)) (ty := .int) (by decide) rfl rfl (g := (mkF m 40 #[.val (.ref a1), .val (.int p2), .val (.int p3), .val (.int p4), .val (.int p5), .val (.int p6), .val (.int p7), .val (.int p8)] [(.int p8), (.ref a1)])) rfl rfl (hb hby own_d1_40)
  have E_a1 := E_a1.wr W8
  have F_users_a1 := F_users_a1.other W8 (Or.inr (slot_ne (Or.inr (hw _ (List.mem_of_getElem? (i := 15) rfl))) (Or.inr (hw _ (List.mem_of_getElem? (i := 27) rfl))) (by decide) (t := .int) (t' := .int) (by decide) (by decide)))
  have F_bikes_a1 := F_bikes_a1.other W8 (Or.inr (slot_ne (Or.inr (hw _ (List.mem_of_getElem? (i := 17) rfl))) (Or.inr (hw _ (List.mem_of_getElem? (i := 27) rfl))) (by decide) (t := .int) (t' := .int) (by decide) (by decide)))
  have F_riding_a1 := F_riding_a1.other W8 (Or.inr (slot_ne (Or.inr (hw _ (List.mem_of_getElem? (i := 19) rfl))) (Or.inr (hw _ (List.mem_of_getElem? (i := 27) rfl))) (by decide) (t := .int) (t' := .int) (by decide) (by decide)))
  have F_openTrips_a1 := F_openTrips_a1.other W8 (Or.inr (slot_ne (Or.inr (hw _ (List.mem_of_getElem? (i := 21) rfl))) (Or.inr (hw _ (List.mem_of_getElem? (i := 27) rfl))) (by decide) (t := .int) (t' := .int) (by decide) (by decide)))
  have F_money_a1 := F_money_a1.other W8 (Or.inr (slot_ne (Or.inr (hw _ (List.mem_of_getElem? (i := 23) rfl))) (Or.inr (hw _ (List.mem_of_getElem? (i := 27) rfl))) (by decide) (t := .boolean) (t' := .int) (by decide) (by decide)))
  have F_trips_a1 := F_trips_a1.other W8 (Or.inr (slot_ne (Or.inr (hw _ (List.mem_of_getElem? (i := 25) rfl))) (Or.inr (hw _ (List.mem_of_getElem? (i := 27) rfl))) (by decide) (t := .boolean) (t' := .int) (by decide) (by decide)))
  have Z8 : n0 ≤ h8.size := Nat.le_trans Z7 (Keep.of_wr W8).1
  have K8 := K7.wr W8 (Or.inl (List.mem_of_getElem? (i := 0) rfl))
  have N8 := Fr.snoc X8 N7 g_a1
  have F_negative_a1 : Fld Z h8 a1 "com/example/shardwright/shardwright/workload/BikeShareAudit" "negative" "I" (.int p8) := F_negative_a1.same W8
  have pre9 : ∀ t, Steps p.tables e below (T8.setTop (mkF m 43 #[.val (.ref a1), .val (.int p2), .val (.int p3), .val (.int p4), .val (.int p5), .val (.int p6), .val (.int p7), .val (.int p8)] [])) t → Steps p.tables e below (s₁.setTop (entryFrame m #[(.ref a1), (.int p2), (.int p3), (.int p4), (.int p5), (.int p6), (.int p7), (.int p8)] 8)) t := by
    intro t k
    refine pre0 _ ?_
    show Steps p.tables e below (s₁.setTop (mkF m 0 #[.val (.ref a1), .val (.int p2), .val (.int p3), .val (.int p4), .val (.int p5), .val (.int p6), .val (.int p7), .val (.int p8)] [])) _
    refine XS.aloadN X0.here hx rfl (hb hby own_d1_0) rfl rfl ?_
    show Steps p.tables e below (s₁.setTop (mkF m 1 #[.val (.ref a1), .val (.int p2), .val (.int p3), .val (.int p4), .val (.int p5), .val (.int p6), .val (.int p7), .val (.int p8)] [(.ref a1)])) _
    refine st1.trans ?_
    show Steps p.tables e below (T1.setTop (mkF m 4 #[.val (.ref a1), .val (.int p2), .val (.int p3), .val (.int p4), .val (.int p5), .val (.int p6), .val (.int p7), .val (.int p8)] [])) _
    refine XS.aloadN X1.here hx rfl (hb hby own_d1_4) rfl rfl ?_
    show Steps p.tables e below (T1.setTop (mkF m 5 #[.val (.ref a1), .val (.int p2), .val (.int p3), .val (.int p4), .val (.int p5), .val (.int p6), .val (.int p7), .val (.int p8)] [(.ref a1)])) _
    refine XS.iloadN X1.here hx rfl (hb hby own_d1_5) rfl ?_
    show Steps p.tables e below (T1.setTop (mkF m 6 #[.val (.ref a1), .val (.int p2), .val (.int p3), .val (.int p4), .val (.int p5), .val (.int p6), .val (.int p7), .val (.int p8)] [(.int p2), (.ref a1)])) _
    refine st2 _ ?_
    show Steps p.tables e below (T2.setTop (mkF m 9 #[.val (.ref a1), .val (.int p2), .val (.int p3), .val (.int p4), .val (.int p5), .val (.int p6), .val (.int p7), .val (.int p8)] [])) _
    refine XS.aloadN X2.here hx rfl (hb hby own_d1_9) rfl rfl ?_
    show Steps p.tables e below (T2.setTop (mkF m 10 #[.val (.ref a1), .val (.int p2), .val (.int p3), .val (.int p4), .val (.int p5), .val (.int p6), .val (.int p7), .val (.int p8)] [(.ref a1)])) _
    refine XS.iloadN X2.here hx rfl (hb hby own_d1_10) rfl ?_
    show Steps p.tables e below (T2.setTop (mkF m 11 #[.val (.ref a1), .val (.int p2), .val (.int p3), .val (.int p4), .val (.int p5), .val (.int p6), .val (.int p7), .val (.int p8)] [(.int p3), (.ref a1)])) _
    refine st3 _ ?_
    show Steps p.tables e below (T3.setTop (mkF m 14 #[.val (.ref a1), .val (.int p2), .val (.int p3), .val (.int p4), .val (.int p5), .val (.int p6), .val (.int p7), .val (.int p8)] [])) _
    refine XS.aloadN X3.here hx rfl (hb hby own_d1_14) rfl rfl ?_
    show Steps p.tables e below (T3.setTop (mkF m 15 #[.val (.ref a1), .val (.int p2), .val (.int p3), .val (.int p4), .val (.int p5), .val (.int p6), .val (.int p7), .val (.int p8)] [(.ref a1)])) _
    refine XS.iloadN X3.here hx rfl (hb hby own_d1_15) rfl ?_
    show Steps p.tables e below (T3.setTop (mkF m 16 #[.val (.ref a1), .val (.int p2), .val (.int p3), .val (.int p4), .val (.int p5), .val (.int p6), .val (.int p7), .val (.int p8)] [(.int p4), (.ref a1)])) _
    refine st4 _ ?_
    show Steps p.tables e below (T4.setTop (mkF m 19 #[.val (.ref a1), .val (.int p2), .val (.int p3), .val (.int p4), .val (.int p5), .val (.int p6), .val (.int p7), .val (.int p8)] [])) _
    refine XS.aloadN X4.here hx rfl (hb hby own_d1_19) rfl rfl ?_
    show Steps p.tables e below (T4.setTop (mkF m 20 #[.val (.ref a1), .val (.int p2), .val (.int p3), .val (.int p4), .val (.int p5), .val (.int p6), .val (.int p7), .val (.int p8)] [(.ref a1)])) _
    refine XS.iload X4.here hx rfl (hb hby own_d1_20) rfl ?_
    show Steps p.tables e below (T4.setTop (mkF m 22 #[.val (.ref a1), .val (.int p2), .val (.int p3), .val (.int p4), .val (.int p5), .val (.int p6), .val (.int p7), .val (.int p8)] [(.int p5), (.ref a1)])) _
    refine st5 _ ?_
    show Steps p.tables e below (T5.setTop (mkF m 25 #[.val (.ref a1), .val (.int p2), .val (.int p3), .val (.int p4), .val (.int p5), .val (.int p6), .val (.int p7), .val (.int p8)] [])) _
    refine XS.aloadN X5.here hx rfl (hb hby own_d1_25) rfl rfl ?_
    show Steps p.tables e below (T5.setTop (mkF m 26 #[.val (.ref a1), .val (.int p2), .val (.int p3), .val (.int p4), .val (.int p5), .val (.int p6), .val (.int p7), .val (.int p8)] [(.ref a1)])) _
    refine XS.iload X5.here hx rfl (hb hby own_d1_26) rfl ?_
    show Steps p.tables e below (T5.setTop (mkF m 28 #[.val (.ref a1), .val (.int p2), .val (.int p3), .val (.int p4), .val (.int p5), .val (.int p6), .val (.int p7), .val (.int p8)] [(.int p6), (.ref a1)])) _
    refine st6 _ ?_
    show Steps p.tables e below (T6.setTop (mkF m 31 #[.val (.ref a1), .val (.int p2), .val (.int p3), .val (.int p4), .val (.int p5), .val (.int p6), .val (.int p7), .val (.int p8)] [])) _
    refine XS.aloadN X6.here hx rfl (hb hby own_d1_31) rfl rfl ?_
    show Steps p.tables e below (T6.setTop (mkF m 32 #[.val (.ref a1), .val (.int p2), .val (.int p3), .val (.int p4), .val (.int p5), .val (.int p6), .val (.int p7), .val (.int p8)] [(.ref a1)])) _
    refine XS.iload X6.here hx rfl (hb hby own_d1_32) rfl ?_
    show Steps p.tables e below (T6.setTop (mkF m 34 #[.val (.ref a1), .val (.int p2), .val (.int p3), .val (.int p4), .val (.int p5), .val (.int p6), .val (.int p7), .val (.int p8)] [(.int p7), (.ref a1)])) _
    refine st7 _ ?_
    show Steps p.tables e below (T7.setTop (mkF m 37 #[.val (.ref a1), .val (.int p2), .val (.int p3), .val (.int p4), .val (.int p5), .val (.int p6), .val (.int p7), .val (.int p8)] [])) _
    refine XS.aloadN X7.here hx rfl (hb hby own_d1_37) rfl rfl ?_
    show Steps p.tables e below (T7.setTop (mkF m 38 #[.val (.ref a1), .val (.int p2), .val (.int p3), .val (.int p4), .val (.int p5), .val (.int p6), .val (.int p7), .val (.int p8)] [(.ref a1)])) _
    refine XS.iload X7.here hx rfl (hb hby own_d1_38) rfl ?_
    show Steps p.tables e below (T7.setTop (mkF m 40 #[.val (.ref a1), .val (.int p2), .val (.int p3), .val (.int p4), .val (.int p5), .val (.int p6), .val (.int p7), .val (.int p8)] [(.int p8), (.ref a1)])) _
    refine st8 _ ?_
    exact k
  obtain ⟨fs, hr, hrun, hended, hW, hsame⟩ := X8.leave (v := none) (fun _ => rfl)
  refine ⟨_, _, pre9 _ ?_, hrun, hended, _, _, rfl, ?_, ⟨_, rfl⟩, hW, hsame.mono (by decide) (by decide)⟩
  · show Steps p.tables e below (T8.setTop (mkF m 43 #[.val (.ref a1), .val (.int p2), .val (.int p3), .val (.int p4), .val (.int p5), .val (.int p6), .val (.int p7), .val (.int p8)] [])) _
    exact X8.returnOut hx Bd.returns (hb hby own_d1_43) hr
  · show own_Q1 Z a1 p2 p3 p4 p5 p6 p7 p8 u0 u1 u2 u3 u4 u5 u6 h0 n0 _ T8.heap _
    rw [e8]
    exact ⟨rfl, N8, K8, E_a1, F_users_a1, F_bikes_a1, F_riding_a1, F_openTrips_a1, F_money_a1, F_trips_a1, F_negative_a1⟩
theorem own_d4_0 : decode prog_192_method_3_code 0 = .ok (.aload_n 0, 1) := by decide +kernel
theorem own_d4_1 : decode prog_192_method_3_code 1 = .ok (.getfield 22, 3) := by decide +kernel
theorem own_d4_4 : decode prog_192_method_3_code 4 = .ok (.ifCond .eq 21, 3) := by decide +kernel
theorem own_d4_7 : decode prog_192_method_3_code 7 = .ok (.aload_n 0, 1) := by decide +kernel
theorem own_d4_8 : decode prog_192_method_3_code 8 = .ok (.getfield 26, 3) := by decide +kernel
theorem own_d4_11 : decode prog_192_method_3_code 11 = .ok (.ifCond .eq 14, 3) := by decide +kernel
theorem own_d4_14 : decode prog_192_method_3_code 14 = .ok (.aload_n 0, 1) := by decide +kernel
theorem own_d4_15 : decode prog_192_method_3_code 15 = .ok (.getfield 29, 3) := by decide +kernel
theorem own_d4_18 : decode prog_192_method_3_code 18 = .ok (.ifCond .ne 7, 3) := by decide +kernel
theorem own_d4_21 : decode prog_192_method_3_code 21 = .ok (.iconst 1, 1) := by decide +kernel
theorem own_d4_22 : decode prog_192_method_3_code 22 = .ok (.goto 4, 3) := by decide +kernel
theorem own_d4_25 : decode prog_192_method_3_code 25 = .ok (.iconst 0, 1) := by decide +kernel
theorem own_d4_26 : decode prog_192_method_3_code 26 = .ok (.ireturn, 1) := by decide +kernel
theorem own_ef4 (m : MethodId) (x0 : Addr) : entryFrame m #[(.ref x0)] 1 = mkF m 0 #[.val (.ref x0)] [] := by first | (simp [entryFrame, mkF, argsToLocals, Value.category]; done) | rfl
def own_Q4 (Z : State) (a1 : Addr) (w1 : Int32) (w2 : Int32) (w3 : Int32) (h0 : Heap) (n0 : Nat) (v : Option Value) (h : Heap) (L : List Loc) : Prop := v = some (.int (own_h w1 w2 w3)) ∧ Fr n0 L ∧ h = h0
set_option maxRecDepth 65536 in
set_option maxHeartbeats 40000000 in
theorem rm4 (l : Launch) (Z : State) (a0 : Array Value) (hw : ∀ d ∈ tables_1, d.before a0 Z = true) (ws : List Jvm.Cond) (a1 : Addr) (w1 : Int32) (w2 : Int32) (w3 : Int32) (h0 : Heap) (n0 : Nat) (Z0 : n0 ≤ h0.size) (F_money_a1 : Fld Z h0 a1 "com/example/shardwright/shardwright/workload/BikeShareAudit" "money" "Z" (.int w1)) (F_trips_a1 : Fld Z h0 a1 "com/example/shardwright/shardwright/workload/BikeShareAudit" "trips" "Z" (.int w2)) (F_negative_a1 : Fld Z h0 a1 "com/example/shardwright/shardwright/workload/BikeShareAudit" "negative" "I" (.int w3)) :
    MetFree l (⟨"com/example/shardwright/shardwright/workload/BikeShareAudit", "holds", "()Z"⟩ : MethodName) (head1 (Jvm.Cond.code (⟨"com/example/shardwright/shardwright/workload/BikeShareAudit", "holds", "()Z"⟩ : MethodName) prog_192_method_3_code 1 (some .boolean) :: ws) ({ frames := 0, cells := 0, slots := 0, locals := 0 } : Room)) (fun a U => a = #[(.ref a1)] ∧ Z.Warmed39 U.vm ∧ U.heap = h0) (fun _ _ _ _ _ => True) (fun _ U o U' => ∃ v L, o = .returned v ∧ own_Q4 Z a1 w1 w2 w3 h0 n0 v U'.heap L ∧ FrameEnd U o U' L ({ frames := 0, cells := 0, slots := 0, locals := 0 } : Room).cells ({ frames := 0, cells := 0, slots := 0, locals := 0 } : Room).slots) := by
  refine MetFree.of_bodySF (plainFor_of_name own_pn4) hisR ?_
  intro p e s m args below meth c s₁ Bd hml0 hP hK
  obtain ⟨rfl, hZ, hh⟩ := hP
  have hx := Bd.exec
  have hby := Bd.bytes
  have hml : c.maxLocals = 1 := hml0
  have hown : s.vm.findClass "com/example/shardwright/shardwright/workload/BikeShareAudit" = some m.cls := findClass_of_methodNamed Bd.named
  have hnm := (name_of_methodNamed Bd.named Bd.method).1
  have X0 : Stand p l e ({ frames := 0, cells := 0, slots := 0, locals := 0 } : Room) s m #[(.ref a1)] below meth c s₁ [] 0 0 := Stand.of_body Bd
  have e0 : s₁.heap = h0 := by rw [← hh, Bd.state]; rfl
  have N0 := Fr.nil n0
  have pre0 : ∀ t, Steps p.tables e below (s₁.setTop (mkF m 0 #[.val (.ref a1)] [])) t → Steps p.tables e below (s₁.setTop (entryFrame m #[(.ref a1)] 1)) t := fun t k => castTop (own_ef4 m a1) k
  obtain ⟨T1, X1, e1, st1⟩ := getF X0 hx hZ hown (host := "") (Or.inl (hw _ (List.mem_of_getElem? (i := 22) rfl))) Via.refl e0 F_money_a1 (g := (mkF m 1 #[.val (.ref a1)] [(.ref a1)])) rfl rfl (hb hby own_d4_1)
  have pre2 : ∀ t, Steps p.tables e below (T1.setTop (mkF m 4 #[.val (.ref a1)] [(.int w1)])) t → Steps p.tables e below (s₁.setTop (entryFrame m #[(.ref a1)] 1)) t := by
    intro t k
    refine pre0 _ ?_
    show Steps p.tables e below (s₁.setTop (mkF m 0 #[.val (.ref a1)] [])) _
    refine XS.aloadN X0.here hx rfl (hb hby own_d4_0) rfl rfl ?_
    show Steps p.tables e below (s₁.setTop (mkF m 1 #[.val (.ref a1)] [(.ref a1)])) _
    refine st1 _ ?_
    exact k
  by_cases hc4 : w1 = (0 : Int32)
  · -- hc4 
    have pre3 : ∀ t, Steps p.tables e below (T1.setTop (mkF m 26 #[.val (.ref a1)] [(.int (0 : Int32))])) t → Steps p.tables e below (s₁.setTop (entryFrame m #[(.ref a1)] 1)) t := by
      intro t k
      refine pre2 _ ?_
      show Steps p.tables e below (T1.setTop (mkF m 4 #[.val (.ref a1)] [(.int w1)])) _
      refine XS.ifYes X1.here hx rfl (pc0 := 4) (pc' := 25) rfl (hb hby own_d4_4) rfl ((if0 _ _).trans (teq hc4).1) (by decide) (by decide) ?_
      show Steps p.tables e below (T1.setTop (mkF m 25 #[.val (.ref a1)] [])) _
      refine XS.iconst X1.here hx rfl (hb hby own_d4_25) ?_
      exact k
    obtain ⟨fs, hr, hrun, hended, hW, hsame⟩ := X1.leave (v := some (.int (0 : Int32))) (fun h => by rw [Bd.returns] at h; cases h)
    refine ⟨_, _, pre3 _ ?_, hrun, hended, _, _, rfl, ?_, ⟨_, rfl⟩, hW, hsame.mono (by decide) (by decide)⟩
    · show Steps p.tables e below (T1.setTop (mkF m 26 #[.val (.ref a1)] [(.int (0 : Int32))])) _
      exact retN X1 hx (t := .boolean) Bd.returns (by simp) (hb hby own_d4_26) hr
    · show own_Q4 Z a1 w1 w2 w3 h0 n0 _ T1.heap _
      rw [e1]
      exact ⟨congrArg (fun z => some (Value.int z)) (show (0 : Int32) = (own_h w1 w2 w3) from by simp [own_h, hc4]), N0, rfl⟩
  · -- hc4 not
    obtain ⟨T4, X4, e4, st4⟩ := getF X1 hx hZ hown (host := "") (Or.inl (hw _ (List.mem_of_getElem? (i := 24) rfl))) Via.refl e1 F_trips_a1 (g := (mkF m 8 #[.val (.ref a1)] [(.ref a1)])) rfl rfl (hb hby own_d4_8)
    have pre5 : ∀ t, Steps p.tables e below (T4.setTop (mkF m 11 #[.val (.ref a1)] [(.int w2)])) t → Steps p.tables e below (s₁.setTop (entryFrame m #[(.ref a1)] 1)) t := by
      intro t k
      refine pre2 _ ?_
      show Steps p.tables e below (T1.setTop (mkF m 4 #[.val (.ref a1)] [(.int w1)])) _
      refine XS.ifNo X1.here hx rfl (hb hby own_d4_4) rfl ((if0 _ _).trans (feq hc4).1) ?_
      show Steps p.tables e below (T1.setTop (mkF m 7 #[.val (.ref a1)] [])) _
      refine XS.aloadN X1.here hx rfl (hb hby own_d4_7) rfl rfl ?_
      show Steps p.tables e below (T1.setTop (mkF m 8 #[.val (.ref a1)] [(.ref a1)])) _
      refine st4 _ ?_
      exact k
    by_cases hc11 : w2 = (0 : Int32)
    · -- hc11 
      have pre6 : ∀ t, Steps p.tables e below (T4.setTop (mkF m 26 #[.val (.ref a1)] [(.int (0 : Int32))])) t → Steps p.tables e below (s₁.setTop (entryFrame m #[(.ref a1)] 1)) t := by
        intro t k
        refine pre5 _ ?_
        show Steps p.tables e below (T4.setTop (mkF m 11 #[.val (.ref a1)] [(.int w2)])) _
        refine XS.ifYes X4.here hx rfl (pc0 := 11) (pc' := 25) rfl (hb hby own_d4_11) rfl ((if0 _ _).trans (teq hc11).1) (by decide) (by decide) ?_
        show Steps p.tables e below (T4.setTop (mkF m 25 #[.val (.ref a1)] [])) _
        refine XS.iconst X4.here hx rfl (hb hby own_d4_25) ?_
        exact k
      obtain ⟨fs, hr, hrun, hended, hW, hsame⟩ := X4.leave (v := some (.int (0 : Int32))) (fun h => by rw [Bd.returns] at h; cases h)
      refine ⟨_, _, pre6 _ ?_, hrun, hended, _, _, rfl, ?_, ⟨_, rfl⟩, hW, hsame.mono (by decide) (by decide)⟩
      · show Steps p.tables e below (T4.setTop (mkF m 26 #[.val (.ref a1)] [(.int (0 : Int32))])) _
        exact retN X4 hx (t := .boolean) Bd.returns (by simp) (hb hby own_d4_26) hr
      · show own_Q4 Z a1 w1 w2 w3 h0 n0 _ T4.heap _
        rw [e4]
        exact ⟨congrArg (fun z => some (Value.int z)) (show (0 : Int32) = (own_h w1 w2 w3) from by simp [own_h, hc4, hc11]), N0, rfl⟩
    · -- hc11 not
      obtain ⟨T7, X7, e7, st7⟩ := getF X4 hx hZ hown (host := "") (Or.inl (hw _ (List.mem_of_getElem? (i := 26) rfl))) Via.refl e4 F_negative_a1 (g := (mkF m 15 #[.val (.ref a1)] [(.ref a1)])) rfl rfl (hb hby own_d4_15)
      have pre8 : ∀ t, Steps p.tables e below (T7.setTop (mkF m 18 #[.val (.ref a1)] [(.int w3)])) t → Steps p.tables e below (s₁.setTop (entryFrame m #[(.ref a1)] 1)) t := by
        intro t k
        refine pre5 _ ?_
        show Steps p.tables e below (T4.setTop (mkF m 11 #[.val (.ref a1)] [(.int w2)])) _
        refine XS.ifNo X4.here hx rfl (hb hby own_d4_11) rfl ((if0 _ _).trans (feq hc11).1) ?_
        show Steps p.tables e below (T4.setTop (mkF m 14 #[.val (.ref a1)] [])) _
        refine XS.aloadN X4.here hx rfl (hb hby own_d4_14) rfl rfl ?_
        show Steps p.tables e below (T4.setTop (mkF m 15 #[.val (.ref a1)] [(.ref a1)])) _
        refine st7 _ ?_
        exact k
      by_cases hc18 : w3 = (0 : Int32)
      · -- hc18 
        have pre9 : ∀ t, Steps p.tables e below (T7.setTop (mkF m 26 #[.val (.ref a1)] [(.int (1 : Int32))])) t → Steps p.tables e below (s₁.setTop (entryFrame m #[(.ref a1)] 1)) t := by
          intro t k
          refine pre8 _ ?_
          show Steps p.tables e below (T7.setTop (mkF m 18 #[.val (.ref a1)] [(.int w3)])) _
          refine XS.ifNo X7.here hx rfl (hb hby own_d4_18) rfl ((if0 _ _).trans (teq hc18).2) ?_
          show Steps p.tables e below (T7.setTop (mkF m 21 #[.val (.ref a1)] [])) _
          refine XS.iconst X7.here hx rfl (hb hby own_d4_21) ?_
          show Steps p.tables e below (T7.setTop (mkF m 22 #[.val (.ref a1)] [(.int (1 : Int32))])) _
          refine XS.goto X7.here hx rfl (pc0 := 22) (pc' := 26) rfl (hb hby own_d4_22) (by decide) (by decide) ?_
          exact k
        obtain ⟨fs, hr, hrun, hended, hW, hsame⟩ := X7.leave (v := some (.int (1 : Int32))) (fun h => by rw [Bd.returns] at h; cases h)
        refine ⟨_, _, pre9 _ ?_, hrun, hended, _, _, rfl, ?_, ⟨_, rfl⟩, hW, hsame.mono (by decide) (by decide)⟩
        · show Steps p.tables e below (T7.setTop (mkF m 26 #[.val (.ref a1)] [(.int (1 : Int32))])) _
          exact retN X7 hx (t := .boolean) Bd.returns (by simp) (hb hby own_d4_26) hr
        · show own_Q4 Z a1 w1 w2 w3 h0 n0 _ T7.heap _
          rw [e7]
          exact ⟨congrArg (fun z => some (Value.int z)) (show (1 : Int32) = (own_h w1 w2 w3) from by simp [own_h, hc4, hc11, hc18]), N0, rfl⟩
      · -- hc18 not
        have pre10 : ∀ t, Steps p.tables e below (T7.setTop (mkF m 26 #[.val (.ref a1)] [(.int (0 : Int32))])) t → Steps p.tables e below (s₁.setTop (entryFrame m #[(.ref a1)] 1)) t := by
          intro t k
          refine pre8 _ ?_
          show Steps p.tables e below (T7.setTop (mkF m 18 #[.val (.ref a1)] [(.int w3)])) _
          refine XS.ifYes X7.here hx rfl (pc0 := 18) (pc' := 25) rfl (hb hby own_d4_18) rfl ((if0 _ _).trans (feq hc18).2) (by decide) (by decide) ?_
          show Steps p.tables e below (T7.setTop (mkF m 25 #[.val (.ref a1)] [])) _
          refine XS.iconst X7.here hx rfl (hb hby own_d4_25) ?_
          exact k
        obtain ⟨fs, hr, hrun, hended, hW, hsame⟩ := X7.leave (v := some (.int (0 : Int32))) (fun h => by rw [Bd.returns] at h; cases h)
        refine ⟨_, _, pre10 _ ?_, hrun, hended, _, _, rfl, ?_, ⟨_, rfl⟩, hW, hsame.mono (by decide) (by decide)⟩
        · show Steps p.tables e below (T7.setTop (mkF m 26 #[.val (.ref a1)] [(.int (0 : Int32))])) _
          exact retN X7 hx (t := .boolean) Bd.returns (by simp) (hb hby own_d4_26) hr
        · show own_Q4 Z a1 w1 w2 w3 h0 n0 _ T7.heap _
          rw [e7]
          exact ⟨congrArg (fun z => some (Value.int z)) (show (0 : Int32) = (own_h w1 w2 w3) from by simp [own_h, hc4, hc11, hc18]), N0, rfl⟩
theorem own_ef0 (m : MethodId) (x0 : Int32) (x1 : Int32) (x2 : Int32) (x3 : Int32) (x4 : Int32) (x5 : Int32) : entryFrame m #[(.int x0), (.int x1), (.int x2), (.int x3), (.int x4), (.int x5)] maxLocals = mkF m 0 #[.val (.int x0), .val (.int x1), .val (.int x2), .val (.int x3), .val (.int x4), .val (.int x5), .unset, .unset, .unset, .unset] [] := by first | (simp [entryFrame, mkF, argsToLocals, Value.category, maxLocals]; done) | rfl
def own_Q0 (Z : State) (p1 : Int32) (p2 : Int32) (p3 : Int32) (p4 : Int32) (p5 : Int32) (p6 : Int32) (h0 : Heap) (n0 : Nat) (v : Option Value) (h : Heap) (L : List Loc) : Prop := v = some (.int (1 : Int32)) ∧ Fr n0 L
set_option maxRecDepth 65536 in
set_option maxHeartbeats 40000000 in
theorem rm0 (l : Launch) (Z : State) (a0 : Array Value) (hw : ∀ d ∈ tables_1, d.before a0 Z = true) (ws : List Jvm.Cond) (p1 : Int32) (p2 : Int32) (p3 : Int32) (p4 : Int32) (p5 : Int32) (p6 : Int32) (h0 : Heap) (n0 : Nat) (Z0 : n0 ≤ h0.size)  :
    MetFree l x (head1 (Jvm.Cond.code x code maxLocals ret :: ws) room_1) (fun a U => a = #[(.int p1), (.int p2), (.int p3), (.int p4), (.int p5), (.int p6)] ∧ Z.Warmed39 U.vm ∧ U.heap = h0) (fun _ _ _ _ _ => True) (fun _ U o U' => ∃ v L, o = .returned v ∧ own_Q0 Z p1 p2 p3 p4 p5 p6 h0 n0 v U'.heap L ∧ FrameEnd U o U' L room_1.cells room_1.slots) := by
  refine MetFree.of_bodySF (plainFor_of_name own_pn0) hisR ?_
  intro p e s m args below meth c s₁ Bd hml0 hP hK
  obtain ⟨rfl, hZ, hh⟩ := hP
  have hx := Bd.exec
  have hby := Bd.bytes
  have hml : c.maxLocals = 10 := hml0
  have hown : s.vm.findClass "com/example/shardwright/shardwright/workload/BikeShareAuditHoldsPinLaw" = some m.cls := findClass_of_methodNamed Bd.named
  have hnm := (name_of_methodNamed Bd.named Bd.method).1
  have X0 : Stand p l e room_1 s m #[(.int p1), (.int p2), (.int p3), (.int p4), (.int p5), (.int p6)] below meth c s₁ [] 0 0 := Stand.of_body Bd
  have e0 : s₁.heap = h0 := by rw [← hh, Bd.state]; rfl
  have N0 := Fr.nil n0
  have pre0 : ∀ t, Steps p.tables e below (s₁.setTop (mkF m 0 #[.val (.int p1), .val (.int p2), .val (.int p3), .val (.int p4), .val (.int p5), .val (.int p6), .unset, .unset, .unset, .unset] [])) t → Steps p.tables e below (s₁.setTop (entryFrame m #[(.int p1), (.int p2), (.int p3), (.int p4), (.int p5), (.int p6)] maxLocals)) t := fun t k => castTop (own_ef0 m p1 p2 p3 p4 p5 p6) k
  obtain ⟨w6, hw6, pre1⟩ : ∃ (w6 : Int32), (w6 = 0 ∨ w6 = 1) ∧ ∀ t, Steps p.tables e below (s₁.setTop (mkF m 12 #[.val (.int p1), .val (.int p2), .val (.int p3), .val (.int p4), .val (.int p5), .val (.int p6), .unset, .unset, .unset, .unset] [(.int w6)])) t → Steps p.tables e below (s₁.setTop (entryFrame m #[(.int p1), (.int p2), (.int p3), (.int p4), (.int p5), (.int p6)] maxLocals)) t := by
    have pre2 : ∀ t, Steps p.tables e below (s₁.setTop (mkF m 4 #[.val (.int p1), .val (.int p2), .val (.int p3), .val (.int p4), .val (.int p5), .val (.int p6), .unset, .unset, .unset, .unset] [(.int (p5 &&& (1 : Int32)))])) t → Steps p.tables e below (s₁.setTop (entryFrame m #[(.int p1), (.int p2), (.int p3), (.int p4), (.int p5), (.int p6)] maxLocals)) t := by
      intro t k
      refine pre0 _ ?_
      show Steps p.tables e below (s₁.setTop (mkF m 0 #[.val (.int p1), .val (.int p2), .val (.int p3), .val (.int p4), .val (.int p5), .val (.int p6), .unset, .unset, .unset, .unset] [])) _
      refine XS.iload X0.here hx rfl (hb hby at_0) rfl ?_
      show Steps p.tables e below (s₁.setTop (mkF m 2 #[.val (.int p1), .val (.int p2), .val (.int p3), .val (.int p4), .val (.int p5), .val (.int p6), .unset, .unset, .unset, .unset] [(.int p5)])) _
      refine XS.iconst X0.here hx rfl (hb hby at_2) ?_
      show Steps p.tables e below (s₁.setTop (mkF m 3 #[.val (.int p1), .val (.int p2), .val (.int p3), .val (.int p4), .val (.int p5), .val (.int p6), .unset, .unset, .unset, .unset] [(.int (1 : Int32)), (.int p5)])) _
      refine XS.iand X0.here hx rfl (hb hby at_3) rfl ?_
      exact k
    by_cases hc4 : (p5 &&& (1 : Int32)) = (0 : Int32)
    · -- hc4 
      refine ⟨(0 : Int32), by decide, fun t k => ?_⟩
      refine pre2 _ ?_
      show Steps p.tables e below (s₁.setTop (mkF m 4 #[.val (.int p1), .val (.int p2), .val (.int p3), .val (.int p4), .val (.int p5), .val (.int p6), .unset, .unset, .unset, .unset] [(.int (p5 &&& (1 : Int32)))])) _
      refine XS.ifYes X0.here hx rfl (pc0 := 4) (pc' := 11) rfl (hb hby at_4) rfl ((if0 _ _).trans (teq hc4).1) (by decide) (by decide) ?_
      show Steps p.tables e below (s₁.setTop (mkF m 11 #[.val (.int p1), .val (.int p2), .val (.int p3), .val (.int p4), .val (.int p5), .val (.int p6), .unset, .unset, .unset, .unset] [])) _
      refine XS.iconst X0.here hx rfl (hb hby at_11) ?_
      exact k
    · -- hc4 not
      refine ⟨(1 : Int32), by decide, fun t k => ?_⟩
      refine pre2 _ ?_
      show Steps p.tables e below (s₁.setTop (mkF m 4 #[.val (.int p1), .val (.int p2), .val (.int p3), .val (.int p4), .val (.int p5), .val (.int p6), .unset, .unset, .unset, .unset] [(.int (p5 &&& (1 : Int32)))])) _
      refine XS.ifNo X0.here hx rfl (hb hby at_4) rfl ((if0 _ _).trans (feq hc4).1) ?_
      show Steps p.tables e below (s₁.setTop (mkF m 7 #[.val (.int p1), .val (.int p2), .val (.int p3), .val (.int p4), .val (.int p5), .val (.int p6), .unset, .unset, .unset, .unset] [])) _
      refine XS.iconst X0.here hx rfl (hb hby at_7) ?_
      show Steps p.tables e below (s₁.setTop (mkF m 8 #[.val (.int p1), .val (.int p2), .val (.int p3), .val (.int p4), .val (.int p5), .val (.int p6), .unset, .unset, .unset, .unset] [(.int (1 : Int32))])) _
      refine XS.goto X0.here hx rfl (pc0 := 8) (pc' := 12) rfl (hb hby at_8) (by decide) (by decide) ?_
      exact k
  have pre3 : ∀ t, Steps p.tables e below (s₁.setTop (mkF m 14 #[.val (.int p1), .val (.int p2), .val (.int p3), .val (.int p4), .val (.int p5), .val (.int p6), .val (.int w6), .unset, .unset, .unset] [])) t → Steps p.tables e below (s₁.setTop (entryFrame m #[(.int p1), (.int p2), (.int p3), (.int p4), (.int p5), (.int p6)] maxLocals)) t := by
    intro t k
    refine pre1 _ ?_
    show Steps p.tables e below (s₁.setTop (mkF m 12 #[.val (.int p1), .val (.int p2), .val (.int p3), .val (.int p4), .val (.int p5), .val (.int p6), .unset, .unset, .unset, .unset] [(.int w6)])) _
    refine XS.istore X0.here hx rfl (hb hby at_12) rfl (l' := #[.val (.int p1), .val (.int p2), .val (.int p3), .val (.int p4), .val (.int p5), .val (.int p6), .val (.int w6), .unset, .unset, .unset]) rfl ?_
    exact k
  obtain ⟨w7, hw7, pre4⟩ : ∃ (w7 : Int32), (w7 = 0 ∨ w7 = 1) ∧ ∀ t, Steps p.tables e below (s₁.setTop (mkF m 26 #[.val (.int p1), .val (.int p2), .val (.int p3), .val (.int p4), .val (.int p5), .val (.int p6), .val (.int w6), .unset, .unset, .unset] [(.int w7)])) t → Steps p.tables e below (s₁.setTop (entryFrame m #[(.int p1), (.int p2), (.int p3), (.int p4), (.int p5), (.int p6)] maxLocals)) t := by
    have pre5 : ∀ t, Steps p.tables e below (s₁.setTop (mkF m 18 #[.val (.int p1), .val (.int p2), .val (.int p3), .val (.int p4), .val (.int p5), .val (.int p6), .val (.int w6), .unset, .unset, .unset] [(.int (p5 &&& (2 : Int32)))])) t → Steps p.tables e below (s₁.setTop (entryFrame m #[(.int p1), (.int p2), (.int p3), (.int p4), (.int p5), (.int p6)] maxLocals)) t := by
      intro t k
      refine pre3 _ ?_
      show Steps p.tables e below (s₁.setTop (mkF m 14 #[.val (.int p1), .val (.int p2), .val (.int p3), .val (.int p4), .val (.int p5), .val (.int p6), .val (.int w6), .unset, .unset, .unset] [])) _
      refine XS.iload X0.here hx rfl (hb hby at_14) rfl ?_
      show Steps p.tables e below (s₁.setTop (mkF m 16 #[.val (.int p1), .val (.int p2), .val (.int p3), .val (.int p4), .val (.int p5), .val (.int p6), .val (.int w6), .unset, .unset, .unset] [(.int p5)])) _
      refine XS.iconst X0.here hx rfl (hb hby at_16) ?_
      show Steps p.tables e below (s₁.setTop (mkF m 17 #[.val (.int p1), .val (.int p2), .val (.int p3), .val (.int p4), .val (.int p5), .val (.int p6), .val (.int w6), .unset, .unset, .unset] [(.int (2 : Int32)), (.int p5)])) _
      refine XS.iand X0.here hx rfl (hb hby at_17) rfl ?_
      exact k
    by_cases hc18 : (p5 &&& (2 : Int32)) = (0 : Int32)
    · -- hc18 
      refine ⟨(0 : Int32), by decide, fun t k => ?_⟩
      refine pre5 _ ?_
      show Steps p.tables e below (s₁.setTop (mkF m 18 #[.val (.int p1), .val (.int p2), .val (.int p3), .val (.int p4), .val (.int p5), .val (.int p6), .val (.int w6), .unset, .unset, .unset] [(.int (p5 &&& (2 : Int32)))])) _
      refine XS.ifYes X0.here hx rfl (pc0 := 18) (pc' := 25) rfl (hb hby at_18) rfl ((if0 _ _).trans (teq hc18).1) (by decide) (by decide) ?_
      show Steps p.tables e below (s₁.setTop (mkF m 25 #[.val (.int p1), .val (.int p2), .val (.int p3), .val (.int p4), .val (.int p5), .val (.int p6), .val (.int w6), .unset, .unset, .unset] [])) _
      refine XS.iconst X0.here hx rfl (hb hby at_25) ?_
      exact k
    · -- hc18 not
      refine ⟨(1 : Int32), by decide, fun t k => ?_⟩
      refine pre5 _ ?_
      show Steps p.tables e below (s₁.setTop (mkF m 18 #[.val (.int p1), .val (.int p2), .val (.int p3), .val (.int p4), .val (.int p5), .val (.int p6), .val (.int w6), .unset, .unset, .unset] [(.int (p5 &&& (2 : Int32)))])) _
      refine XS.ifNo X0.here hx rfl (hb hby at_18) rfl ((if0 _ _).trans (feq hc18).1) ?_
      show Steps p.tables e below (s₁.setTop (mkF m 21 #[.val (.int p1), .val (.int p2), .val (.int p3), .val (.int p4), .val (.int p5), .val (.int p6), .val (.int w6), .unset, .unset, .unset] [])) _
      refine XS.iconst X0.here hx rfl (hb hby at_21) ?_
      show Steps p.tables e below (s₁.setTop (mkF m 22 #[.val (.int p1), .val (.int p2), .val (.int p3), .val (.int p4), .val (.int p5), .val (.int p6), .val (.int w6), .unset, .unset, .unset] [(.int (1 : Int32))])) _
      refine XS.goto X0.here hx rfl (pc0 := 22) (pc' := 26) rfl (hb hby at_22) (by decide) (by decide) ?_
      exact k
  obtain ⟨T6, h6, X6, e6, E6, A6, D6, -, st6⟩ := newO X0 hx hZ hown (hw _ (List.mem_of_getElem? (i := 0) rfl)) (hw _ (List.mem_of_getElem? (i := 1) rfl)) (hw _ (List.mem_of_getElem? (i := 2) rfl)) e0 (g := (mkF m 28 #[.val (.int p1), .val (.int p2), .val (.int p3), .val (.int p4), .val (.int p5), .val (.int p6), .val (.int w6), .val (.int w7), .unset, .unset] [])) rfl (hb hby at_28) (by decide) (by decide)
  obtain ⟨b6, g6⟩ : ∃ z, z = h0.size := ⟨_, rfl⟩
  rw [← g6] at A6 D6 st6
  have g_b6 : n0 ≤ b6 := Nat.le_trans Z0 (Nat.le_of_eq g6.symm)
  have Z6 : n0 ≤ h6.size := Nat.le_trans Z0 E6.1
  have E_b6 : Exa Z h6 b6 "com/example/shardwright/shardwright/workload/BikeShareAudit" := A6
  have F_users_b6 : Fld Z h6 b6 "com/example/shardwright/shardwright/workload/BikeShareAudit" "users" "I" (.int (0 : Int32)) := D6 (Or.inr (hw _ (List.mem_of_getElem? (i := 15) rfl))) (ty := .int) (by decide)
  have F_bikes_b6 : Fld Z h6 b6 "com/example/shardwright/shardwright/workload/BikeShareAudit" "bikes" "I" (.int (0 : Int32)) := D6 (Or.inr (hw _ (List.mem_of_getElem? (i := 17) rfl))) (ty := .int) (by decide)
  have F_riding_b6 : Fld Z h6 b6 "com/example/shardwright/shardwright/workload/BikeShareAudit" "riding" "I" (.int (0 : Int32)) := D6 (Or.inr (hw _ (List.mem_of_getElem? (i := 19) rfl))) (ty := .int) (by decide)
  have F_openTrips_b6 : Fld Z h6 b6 "com/example/shardwright/shardwright/workload/BikeShareAudit" "openTrips" "I" (.int (0 : Int32)) := D6 (Or.inr (hw _ (List.mem_of_getElem? (i := 21) rfl))) (ty := .int) (by decide)
  have F_money_b6 : Fld Z h6 b6 "com/example/shardwright/shardwright/workload/BikeShareAudit" "money" "Z" (.int (0 : Int32)) := D6 (Or.inr (hw _ (List.mem_of_getElem? (i := 23) rfl))) (ty := .boolean) (by decide)
  have F_trips_b6 : Fld Z h6 b6 "com/example/shardwright/shardwright/workload/BikeShareAudit" "trips" "Z" (.int (0 : Int32)) := D6 (Or.inr (hw _ (List.mem_of_getElem? (i := 25) rfl))) (ty := .boolean) (by decide)
  have F_negative_b6 : Fld Z h6 b6 "com/example/shardwright/shardwright/workload/BikeShareAudit" "negative" "I" (.int (0 : Int32)) := D6 (Or.inr (hw _ (List.mem_of_getElem? (i := 27) rfl))) (ty := .int) (by decide)
  obtain ⟨_, _, ⟨T7, L7, k7, n7⟩, -, X7, ⟨Lc7, hQ7, l7, y7, z7⟩, st7⟩ := X6.specialBack hx (y := (⟨"com/example/shardwright/shardwright/workload/BikeShareAudit", "<init>", "(IIIIZZI)V"⟩ : MethodName)) rfl hown (mvT hZ (hw _ (List.mem_of_getElem? (i := 3) rfl))) (mvT hZ (hw _ (List.mem_of_getElem? (i := 4) rfl))) (mvT hZ (hw _ (List.mem_of_getElem? (i := 5) rfl))) (by decide) (backOf (W := 1) (rm1 l Z a0 hw [] b6 p1 p2 p3 p4 w6 w7 p6 ((.int (0 : Int32))) ((.int (0 : Int32))) ((.int (0 : Int32))) ((.int (0 : Int32))) ((.int (0 : Int32))) ((.int (0 : Int32))) ((.int (0 : Int32))) h6 n0 Z6 E_b6 F_users_b6 F_bikes_b6 F_riding_b6 F_openTrips_b6 F_money_b6 F_trips_b6 F_negative_b6 g_b6 (hw6) (hw7)) hZ (hw _ (List.mem_of_getElem? (i := 5) rfl)) (hw _ (List.mem_of_getElem? (i := 2) rfl)) (by decide) (by decide)) (g := (mkF m 42 #[.val (.int p1), .val (.int p2), .val (.int p3), .val (.int p4), .val (.int p5), .val (.int p6), .val (.int w6), .val (.int w7), .unset, .unset] [(.int p6), (.int w7), (.int w6), (.int p4), (.int p3), (.int p2), (.int p1), (.ref b6), (.ref b6)])) rfl (by rw [hml]; rfl) (Steps.refl _) (a := b6) (argsL := [(.int p1), (.int p2), (.int p3), (.int p4), (.int w6), (.int w7), (.int p6)]) (rest := [(.ref b6)]) (lenOf own_pd1 rfl) rfl (by show 2 * 0 + _ ≤ _; exact Nat.le_of_eq rfl) (hb hby at_42) (fun _ _ => ⟨rfl, e6, (by decide : 1 + 0 ≤ _), (by decide : 7 + 0 ≤ _)⟩)
  dsimp only [Pt.U, Pt.locs, Pt.cells, Pt.slots] at X7 l7 y7 z7 st7 hQ7
  subst l7 y7 z7
  obtain ⟨rfl, N7q, Kq7, P7_0, P7_1, P7_2, P7_3, P7_4, P7_5, P7_6, P7_7⟩ := hQ7
  have N7 := Fr.app N0 N7q
  have E_b6 := P7_0
  have F_users_b6 := P7_1
  have F_bikes_b6 := P7_2
  have F_riding_b6 := P7_3
  have F_openTrips_b6 := P7_4
  have F_money_b6 := P7_5
  have F_trips_b6 := P7_6
  have F_negative_b6 := P7_7
  have Z7 : n0 ≤ T7.heap.size := Nat.le_trans Z6 Kq7.1
  have pre8 : ∀ t, Steps p.tables e below (T7.setTop (mkF m 47 #[.val (.int p1), .val (.int p2), .val (.int p3), .val (.int p4), .val (.int p5), .val (.int p6), .val (.int w6), .val (.int w7), .val (.ref b6), .unset] [])) t → Steps p.tables e below (s₁.setTop (entryFrame m #[(.int p1), (.int p2), (.int p3), (.int p4), (.int p5), (.int p6)] maxLocals)) t := by
    intro t k
    refine pre4 _ ?_
    show Steps p.tables e below (s₁.setTop (mkF m 26 #[.val (.int p1), .val (.int p2), .val (.int p3), .val (.int p4), .val (.int p5), .val (.int p6), .val (.int w6), .unset, .unset, .unset] [(.int w7)])) _
    refine XS.istore X0.here hx rfl (hb hby at_26) rfl (l' := #[.val (.int p1), .val (.int p2), .val (.int p3), .val (.int p4), .val (.int p5), .val (.int p6), .val (.int w6), .val (.int w7), .unset, .unset]) rfl ?_
    show Steps p.tables e below (s₁.setTop (mkF m 28 #[.val (.int p1), .val (.int p2), .val (.int p3), .val (.int p4), .val (.int p5), .val (.int p6), .val (.int w6), .val (.int w7), .unset, .unset] [])) _
    refine st6 _ ?_
    show Steps p.tables e below (T6.setTop (mkF m 31 #[.val (.int p1), .val (.int p2), .val (.int p3), .val (.int p4), .val (.int p5), .val (.int p6), .val (.int w6), .val (.int w7), .unset, .unset] [(.ref b6)])) _
    refine XS.dup X6.here hx rfl (hb hby at_31) rfl rfl ?_
    show Steps p.tables e below (T6.setTop (mkF m 32 #[.val (.int p1), .val (.int p2), .val (.int p3), .val (.int p4), .val (.int p5), .val (.int p6), .val (.int w6), .val (.int w7), .unset, .unset] [(.ref b6), (.ref b6)])) _
    refine XS.iloadN X6.here hx rfl (hb hby at_32) rfl ?_
    show Steps p.tables e below (T6.setTop (mkF m 33 #[.val (.int p1), .val (.int p2), .val (.int p3), .val (.int p4), .val (.int p5), .val (.int p6), .val (.int w6), .val (.int w7), .unset, .unset] [(.int p1), (.ref b6), (.ref b6)])) _
    refine XS.iloadN X6.here hx rfl (hb hby at_33) rfl ?_
    show Steps p.tables e below (T6.setTop (mkF m 34 #[.val (.int p1), .val (.int p2), .val (.int p3), .val (.int p4), .val (.int p5), .val (.int p6), .val (.int w6), .val (.int w7), .unset, .unset] [(.int p2), (.int p1), (.ref b6), (.ref b6)])) _
    refine XS.iloadN X6.here hx rfl (hb hby at_34) rfl ?_
    show Steps p.tables e below (T6.setTop (mkF m 35 #[.val (.int p1), .val (.int p2), .val (.int p3), .val (.int p4), .val (.int p5), .val (.int p6), .val (.int w6), .val (.int w7), .unset, .unset] [(.int p3), (.int p2), (.int p1), (.ref b6), (.ref b6)])) _
    refine XS.iloadN X6.here hx rfl (hb hby at_35) rfl ?_
    show Steps p.tables e below (T6.setTop (mkF m 36 #[.val (.int p1), .val (.int p2), .val (.int p3), .val (.int p4), .val (.int p5), .val (.int p6), .val (.int w6), .val (.int w7), .unset, .unset] [(.int p4), (.int p3), (.int p2), (.int p1), (.ref b6), (.ref b6)])) _
    refine XS.iload X6.here hx rfl (hb hby at_36) rfl ?_
    show Steps p.tables e below (T6.setTop (mkF m 38 #[.val (.int p1), .val (.int p2), .val (.int p3), .val (.int p4), .val (.int p5), .val (.int p6), .val (.int w6), .val (.int w7), .unset, .unset] [(.int w6), (.int p4), (.int p3), (.int p2), (.int p1), (.ref b6), (.ref b6)])) _
    refine XS.iload X6.here hx rfl (hb hby at_38) rfl ?_
    show Steps p.tables e below (T6.setTop (mkF m 40 #[.val (.int p1), .val (.int p2), .val (.int p3), .val (.int p4), .val (.int p5), .val (.int p6), .val (.int w6), .val (.int w7), .unset, .unset] [(.int w7), (.int w6), (.int p4), (.int p3), (.int p2), (.int p1), (.ref b6), (.ref b6)])) _
    refine XS.iload X6.here hx rfl (hb hby at_40) rfl ?_
    show Steps p.tables e below (T6.setTop (mkF m 42 #[.val (.int p1), .val (.int p2), .val (.int p3), .val (.int p4), .val (.int p5), .val (.int p6), .val (.int w6), .val (.int w7), .unset, .unset] [(.int p6), (.int w7), (.int w6), (.int p4), (.int p3), (.int p2), (.int p1), (.ref b6), (.ref b6)])) _
    refine st7.trans ?_
    show Steps p.tables e below (T7.setTop (mkF m 45 #[.val (.int p1), .val (.int p2), .val (.int p3), .val (.int p4), .val (.int p5), .val (.int p6), .val (.int w6), .val (.int w7), .unset, .unset] [(.ref b6)])) _
    refine XS.astore X7.here hx rfl (hb hby at_45) rfl rfl (l' := #[.val (.int p1), .val (.int p2), .val (.int p3), .val (.int p4), .val (.int p5), .val (.int p6), .val (.int w6), .val (.int w7), .val (.ref b6), .unset]) rfl ?_
    exact k
  obtain ⟨w9, hw9, pre9⟩ : ∃ (w9 : Int32), (w9 = own_h w6 w7 p6) ∧ ∀ t, Steps p.tables e below (T7.setTop (mkF m 83 #[.val (.int p1), .val (.int p2), .val (.int p3), .val (.int p4), .val (.int p5), .val (.int p6), .val (.int w6), .val (.int w7), .val (.ref b6), .val (.int w9)] [])) t → Steps p.tables e below (s₁.setTop (entryFrame m #[(.int p1), (.int p2), (.int p3), (.int p4), (.int p5), (.int p6)] maxLocals)) t := by
    have pre10 : ∀ t, Steps p.tables e below (T7.setTop (mkF m 49 #[.val (.int p1), .val (.int p2), .val (.int p3), .val (.int p4), .val (.int p5), .val (.int p6), .val (.int w6), .val (.int w7), .val (.ref b6), .unset] [(.int w6)])) t → Steps p.tables e below (s₁.setTop (entryFrame m #[(.int p1), (.int p2), (.int p3), (.int p4), (.int p5), (.int p6)] maxLocals)) t := by
      intro t k
      refine pre8 _ ?_
      show Steps p.tables e below (T7.setTop (mkF m 47 #[.val (.int p1), .val (.int p2), .val (.int p3), .val (.int p4), .val (.int p5), .val (.int p6), .val (.int w6), .val (.int w7), .val (.ref b6), .unset] [])) _
      refine XS.iload X7.here hx rfl (hb hby at_47) rfl ?_
      exact k
    by_cases hc49 : w6 = (0 : Int32)
    · -- hc49 
      refine ⟨(0 : Int32), by simp [own_h, hc49], fun t k => ?_⟩
      refine pre10 _ ?_
      show Steps p.tables e below (T7.setTop (mkF m 49 #[.val (.int p1), .val (.int p2), .val (.int p3), .val (.int p4), .val (.int p5), .val (.int p6), .val (.int w6), .val (.int w7), .val (.ref b6), .unset] [(.int w6)])) _
      refine XS.ifNo X7.here hx rfl (hb hby at_49) rfl ((if0 _ _).trans (teq hc49).2) ?_
      show Steps p.tables e below (T7.setTop (mkF m 52 #[.val (.int p1), .val (.int p2), .val (.int p3), .val (.int p4), .val (.int p5), .val (.int p6), .val (.int w6), .val (.int w7), .val (.ref b6), .unset] [])) _
      refine XS.iconst X7.here hx rfl (hb hby at_52) ?_
      show Steps p.tables e below (T7.setTop (mkF m 53 #[.val (.int p1), .val (.int p2), .val (.int p3), .val (.int p4), .val (.int p5), .val (.int p6), .val (.int w6), .val (.int w7), .val (.ref b6), .unset] [(.int (0 : Int32))])) _
      refine XS.istore X7.here hx rfl (hb hby at_53) rfl (l' := #[.val (.int p1), .val (.int p2), .val (.int p3), .val (.int p4), .val (.int p5), .val (.int p6), .val (.int w6), .val (.int w7), .val (.ref b6), .val (.int (0 : Int32))]) rfl ?_
      show Steps p.tables e below (T7.setTop (mkF m 55 #[.val (.int p1), .val (.int p2), .val (.int p3), .val (.int p4), .val (.int p5), .val (.int p6), .val (.int w6), .val (.int w7), .val (.ref b6), .val (.int (0 : Int32))] [])) _
      refine XS.goto X7.here hx rfl (pc0 := 55) (pc' := 83) rfl (hb hby at_55) (by decide) (by decide) ?_
      exact k
    · -- hc49 not
      have pre11 : ∀ t, Steps p.tables e below (T7.setTop (mkF m 60 #[.val (.int p1), .val (.int p2), .val (.int p3), .val (.int p4), .val (.int p5), .val (.int p6), .val (.int w6), .val (.int w7), .val (.ref b6), .unset] [(.int w7)])) t → Steps p.tables e below (s₁.setTop (entryFrame m #[(.int p1), (.int p2), (.int p3), (.int p4), (.int p5), (.int p6)] maxLocals)) t := by
        intro t k
        refine pre10 _ ?_
        show Steps p.tables e below (T7.setTop (mkF m 49 #[.val (.int p1), .val (.int p2), .val (.int p3), .val (.int p4), .val (.int p5), .val (.int p6), .val (.int w6), .val (.int w7), .val (.ref b6), .unset] [(.int w6)])) _
        refine XS.ifYes X7.here hx rfl (pc0 := 49) (pc' := 58) rfl (hb hby at_49) rfl ((if0 _ _).trans (feq hc49).2) (by decide) (by decide) ?_
        show Steps p.tables e below (T7.setTop (mkF m 58 #[.val (.int p1), .val (.int p2), .val (.int p3), .val (.int p4), .val (.int p5), .val (.int p6), .val (.int w6), .val (.int w7), .val (.ref b6), .unset] [])) _
        refine XS.iload X7.here hx rfl (hb hby at_58) rfl ?_
        exact k
      by_cases hc60 : w7 = (0 : Int32)
      · -- hc60 
        refine ⟨(0 : Int32), by simp [own_h, hc49, hc60], fun t k => ?_⟩
        refine pre11 _ ?_
        show Steps p.tables e below (T7.setTop (mkF m 60 #[.val (.int p1), .val (.int p2), .val (.int p3), .val (.int p4), .val (.int p5), .val (.int p6), .val (.int w6), .val (.int w7), .val (.ref b6), .unset] [(.int w7)])) _
        refine XS.ifNo X7.here hx rfl (hb hby at_60) rfl ((if0 _ _).trans (teq hc60).2) ?_
        show Steps p.tables e below (T7.setTop (mkF m 63 #[.val (.int p1), .val (.int p2), .val (.int p3), .val (.int p4), .val (.int p5), .val (.int p6), .val (.int w6), .val (.int w7), .val (.ref b6), .unset] [])) _
        refine XS.iconst X7.here hx rfl (hb hby at_63) ?_
        show Steps p.tables e below (T7.setTop (mkF m 64 #[.val (.int p1), .val (.int p2), .val (.int p3), .val (.int p4), .val (.int p5), .val (.int p6), .val (.int w6), .val (.int w7), .val (.ref b6), .unset] [(.int (0 : Int32))])) _
        refine XS.istore X7.here hx rfl (hb hby at_64) rfl (l' := #[.val (.int p1), .val (.int p2), .val (.int p3), .val (.int p4), .val (.int p5), .val (.int p6), .val (.int w6), .val (.int w7), .val (.ref b6), .val (.int (0 : Int32))]) rfl ?_
        show Steps p.tables e below (T7.setTop (mkF m 66 #[.val (.int p1), .val (.int p2), .val (.int p3), .val (.int p4), .val (.int p5), .val (.int p6), .val (.int w6), .val (.int w7), .val (.ref b6), .val (.int (0 : Int32))] [])) _
        refine XS.goto X7.here hx rfl (pc0 := 66) (pc' := 83) rfl (hb hby at_66) (by decide) (by decide) ?_
        exact k
      · -- hc60 not
        have pre12 : ∀ t, Steps p.tables e below (T7.setTop (mkF m 71 #[.val (.int p1), .val (.int p2), .val (.int p3), .val (.int p4), .val (.int p5), .val (.int p6), .val (.int w6), .val (.int w7), .val (.ref b6), .unset] [(.int p6)])) t → Steps p.tables e below (s₁.setTop (entryFrame m #[(.int p1), (.int p2), (.int p3), (.int p4), (.int p5), (.int p6)] maxLocals)) t := by
          intro t k
          refine pre11 _ ?_
          show Steps p.tables e below (T7.setTop (mkF m 60 #[.val (.int p1), .val (.int p2), .val (.int p3), .val (.int p4), .val (.int p5), .val (.int p6), .val (.int w6), .val (.int w7), .val (.ref b6), .unset] [(.int w7)])) _
          refine XS.ifYes X7.here hx rfl (pc0 := 60) (pc' := 69) rfl (hb hby at_60) rfl ((if0 _ _).trans (feq hc60).2) (by decide) (by decide) ?_
          show Steps p.tables e below (T7.setTop (mkF m 69 #[.val (.int p1), .val (.int p2), .val (.int p3), .val (.int p4), .val (.int p5), .val (.int p6), .val (.int w6), .val (.int w7), .val (.ref b6), .unset] [])) _
          refine XS.iload X7.here hx rfl (hb hby at_69) rfl ?_
          exact k
        by_cases hc71 : p6 = (0 : Int32)
        · -- hc71 
          refine ⟨(1 : Int32), by simp [own_h, hc49, hc60, hc71], fun t k => ?_⟩
          refine pre12 _ ?_
          show Steps p.tables e below (T7.setTop (mkF m 71 #[.val (.int p1), .val (.int p2), .val (.int p3), .val (.int p4), .val (.int p5), .val (.int p6), .val (.int w6), .val (.int w7), .val (.ref b6), .unset] [(.int p6)])) _
          refine XS.ifYes X7.here hx rfl (pc0 := 71) (pc' := 80) rfl (hb hby at_71) rfl ((if0 _ _).trans (teq hc71).1) (by decide) (by decide) ?_
          show Steps p.tables e below (T7.setTop (mkF m 80 #[.val (.int p1), .val (.int p2), .val (.int p3), .val (.int p4), .val (.int p5), .val (.int p6), .val (.int w6), .val (.int w7), .val (.ref b6), .unset] [])) _
          refine XS.iconst X7.here hx rfl (hb hby at_80) ?_
          show Steps p.tables e below (T7.setTop (mkF m 81 #[.val (.int p1), .val (.int p2), .val (.int p3), .val (.int p4), .val (.int p5), .val (.int p6), .val (.int w6), .val (.int w7), .val (.ref b6), .unset] [(.int (1 : Int32))])) _
          refine XS.istore X7.here hx rfl (hb hby at_81) rfl (l' := #[.val (.int p1), .val (.int p2), .val (.int p3), .val (.int p4), .val (.int p5), .val (.int p6), .val (.int w6), .val (.int w7), .val (.ref b6), .val (.int (1 : Int32))]) rfl ?_
          exact k
        · -- hc71 not
          refine ⟨(0 : Int32), by simp [own_h, hc49, hc60, hc71], fun t k => ?_⟩
          refine pre12 _ ?_
          show Steps p.tables e below (T7.setTop (mkF m 71 #[.val (.int p1), .val (.int p2), .val (.int p3), .val (.int p4), .val (.int p5), .val (.int p6), .val (.int w6), .val (.int w7), .val (.ref b6), .unset] [(.int p6)])) _
          refine XS.ifNo X7.here hx rfl (hb hby at_71) rfl ((if0 _ _).trans (feq hc71).1) ?_
          show Steps p.tables e below (T7.setTop (mkF m 74 #[.val (.int p1), .val (.int p2), .val (.int p3), .val (.int p4), .val (.int p5), .val (.int p6), .val (.int w6), .val (.int w7), .val (.ref b6), .unset] [])) _
          refine XS.iconst X7.here hx rfl (hb hby at_74) ?_
          show Steps p.tables e below (T7.setTop (mkF m 75 #[.val (.int p1), .val (.int p2), .val (.int p3), .val (.int p4), .val (.int p5), .val (.int p6), .val (.int w6), .val (.int w7), .val (.ref b6), .unset] [(.int (0 : Int32))])) _
          refine XS.istore X7.here hx rfl (hb hby at_75) rfl (l' := #[.val (.int p1), .val (.int p2), .val (.int p3), .val (.int p4), .val (.int p5), .val (.int p6), .val (.int w6), .val (.int w7), .val (.ref b6), .val (.int (0 : Int32))]) rfl ?_
          show Steps p.tables e below (T7.setTop (mkF m 77 #[.val (.int p1), .val (.int p2), .val (.int p3), .val (.int p4), .val (.int p5), .val (.int p6), .val (.int w6), .val (.int w7), .val (.ref b6), .val (.int (0 : Int32))] [])) _
          refine XS.goto X7.here hx rfl (pc0 := 77) (pc' := 83) rfl (hb hby at_77) (by decide) (by decide) ?_
          exact k
  obtain ⟨cq13, kq13, q13a, q13b, q13c⟩ := isOf hZ rfl E_b6
  obtain ⟨_, _, ⟨T13, L13, k13, n13⟩, -, X13, ⟨Lc13, hQ13, l13, y13, z13⟩, st13⟩ := X7.virtualBack hx (y := (⟨"com/example/shardwright/shardwright/workload/BikeShareAudit", "holds", "()Z"⟩ : MethodName)) (z := (⟨"com/example/shardwright/shardwright/workload/BikeShareAudit", "holds", "()Z"⟩ : MethodName)) hown (mvT hZ (hw _ (List.mem_of_getElem? (i := 28) rfl))) (mvT hZ (hw _ (List.mem_of_getElem? (i := 29) rfl))) (notFace_of_selects (args := #[]) (mvT hZ (hw _ (List.mem_of_getElem? (i := 31) rfl)))) (mvT hZ (hw _ (List.mem_of_getElem? (i := 31) rfl))) (mvT hZ (hw _ (List.mem_of_getElem? (i := 30) rfl))) (by decide) (backOf (W := 0) (rm4 l Z a0 hw [] b6 w6 w7 p6 T7.heap n0 Z7 F_money_b6 F_trips_b6 F_negative_b6) hZ (hw _ (List.mem_of_getElem? (i := 32) rfl)) (hw _ (List.mem_of_getElem? (i := 2) rfl)) (by decide) (by decide)) q13a q13c (g := (mkF m 85 #[.val (.int p1), .val (.int p2), .val (.int p3), .val (.int p4), .val (.int p5), .val (.int p6), .val (.int w6), .val (.int w7), .val (.ref b6), .val (.int w9)] [(.ref b6)])) rfl (by rw [hml]; rfl) (Steps.refl _) (argsL := []) (rest := []) (lenOf own_pd2 rfl) rfl (by show 2 * 0 + _ ≤ _; exact Nat.le_of_eq rfl) (hb hby at_85) (fun _ _ => ⟨rfl, rfl, (by decide : 1 + 0 ≤ _), (by decide : 7 + 0 ≤ _)⟩)
  dsimp only [Pt.U, Pt.locs, Pt.cells, Pt.slots] at X13 l13 y13 z13 st13 hQ13
  subst l13 y13 z13
  obtain ⟨rfl, N13q, e13⟩ := hQ13
  have N13 := Fr.app N7 N13q
  have pre14 : ∀ t, Steps p.tables e below (T13.setTop (mkF m 98 #[.val (.int p1), .val (.int p2), .val (.int p3), .val (.int p4), .val (.int p5), .val (.int p6), .val (.int w6), .val (.int w7), .val (.ref b6), .val (.int w9)] [(.int (1 : Int32))])) t → Steps p.tables e below (s₁.setTop (entryFrame m #[(.int p1), (.int p2), (.int p3), (.int p4), (.int p5), (.int p6)] maxLocals)) t := by
    intro t k
    refine pre9 _ ?_
    show Steps p.tables e below (T7.setTop (mkF m 83 #[.val (.int p1), .val (.int p2), .val (.int p3), .val (.int p4), .val (.int p5), .val (.int p6), .val (.int w6), .val (.int w7), .val (.ref b6), .val (.int w9)] [])) _
    refine XS.aload X7.here hx rfl (hb hby at_83) rfl rfl ?_
    show Steps p.tables e below (T7.setTop (mkF m 85 #[.val (.int p1), .val (.int p2), .val (.int p3), .val (.int p4), .val (.int p5), .val (.int p6), .val (.int w6), .val (.int w7), .val (.ref b6), .val (.int w9)] [(.ref b6)])) _
    refine st13.trans ?_
    show Steps p.tables e below (T13.setTop (mkF m 88 #[.val (.int p1), .val (.int p2), .val (.int p3), .val (.int p4), .val (.int p5), .val (.int p6), .val (.int w6), .val (.int w7), .val (.ref b6), .val (.int w9)] [(.int (own_h w6 w7 p6))])) _
    refine XS.iload X13.here hx rfl (hb hby at_88) rfl ?_
    show Steps p.tables e below (T13.setTop (mkF m 90 #[.val (.int p1), .val (.int p2), .val (.int p3), .val (.int p4), .val (.int p5), .val (.int p6), .val (.int w6), .val (.int w7), .val (.ref b6), .val (.int w9)] [(.int w9), (.int (own_h w6 w7 p6))])) _
    refine XS.icmpNo X13.here hx rfl (hb hby at_90) rfl (teq (hw9.symm : (own_h w6 w7 p6) = w9)).2 ?_
    show Steps p.tables e below (T13.setTop (mkF m 93 #[.val (.int p1), .val (.int p2), .val (.int p3), .val (.int p4), .val (.int p5), .val (.int p6), .val (.int w6), .val (.int w7), .val (.ref b6), .val (.int w9)] [])) _
    refine XS.iconst X13.here hx rfl (hb hby at_93) ?_
    show Steps p.tables e below (T13.setTop (mkF m 94 #[.val (.int p1), .val (.int p2), .val (.int p3), .val (.int p4), .val (.int p5), .val (.int p6), .val (.int w6), .val (.int w7), .val (.ref b6), .val (.int w9)] [(.int (1 : Int32))])) _
    refine XS.goto X13.here hx rfl (pc0 := 94) (pc' := 98) rfl (hb hby at_94) (by decide) (by decide) ?_
    exact k
  obtain ⟨fs, hr, hrun, hended, hW, hsame⟩ := X13.leave (v := some (.int (1 : Int32))) (fun h => by rw [Bd.returns] at h; cases h)
  refine ⟨_, _, pre14 _ ?_, hrun, hended, _, _, rfl, ?_, ⟨_, rfl⟩, hW, hsame.mono (by decide) (by decide)⟩
  · show Steps p.tables e below (T13.setTop (mkF m 98 #[.val (.int p1), .val (.int p2), .val (.int p3), .val (.int p4), .val (.int p5), .val (.int p6), .val (.int w6), .val (.int w7), .val (.ref b6), .val (.int w9)] [(.int (1 : Int32))])) _
    exact retN X13 hx (t := .boolean) Bd.returns (by simp) (hb hby at_98) hr
  · show own_Q0 Z p1 p2 p3 p4 p5 p6 h0 n0 _ T13.heap _
    rw [e13]
    exact ⟨rfl, N13⟩
set_option maxRecDepth 65536 in
set_option maxHeartbeats 40000000 in
theorem comes_1 {Post : Tables → Env → Array Value → State → Outcome → State → Prop} (hpost : ∀ tb e args s v u, (limb_1_1.after args s (.returned v) u = true ∧ limb_1_2.after args s (.returned v) u = true ∧ True) → FrameEnd s (.returned v) u (Jvm.fieldLocs frame_1_writes args s ++ Jvm.arrayLocs frame_1_arrays args s ++ Jvm.staticLocs frame_1_statics s) 16 128 → Post tb e args s (.returned v) u) :
    ArmFor flags0 classFile x code maxLocals ret World_1 tables_1 room_1 Calls_1 rest_1 Pre_1 Post := by
  intro l hfl _ _ p e ha hc hk s m args below hf hA hF happ hP
  obtain ⟨hcalls, hrest, hpre⟩ := hP
  obtain ⟨-, -, -, hnamed, -, -, -, hat⟩ := (Spec.applies_iff hf).mp happ
  obtain ⟨hg, hn⟩ := and_e (Cond.before_iff.mp (show (Jvm.Cond.and given_1 narrow_1).before args s = true from hpre))
  obtain ⟨hg2, hg3⟩ := and_e hg
  obtain ⟨hg4, hg5⟩ := and_e hg3
  obtain ⟨hg6, hg7⟩ := and_e hg5
  obtain ⟨hg8, hg9⟩ := and_e hg7
  obtain ⟨hg10, hg11⟩ := and_e hg9
  obtain ⟨hg12, hg13⟩ := and_e hg11
  obtain ⟨w0, w1, w2, w3, w4, w5, rfl⟩ : ∃ w0 w1 w2 w3 w4 w5 : Value, args = #[w0, w1, w2, w3, w4, w5] := by
    have hs : args.size = 6 := by simpa [Cond.value, given_1] using hg2
    obtain ⟨L⟩ := args
    match L, hs with
    | [w0, w1, w2, w3, w4, w5], _ => exact ⟨w0, w1, w2, w3, w4, w5, rfl⟩
  have hw := fun d (hd : d ∈ tables_1) => atoms_spec (ws := Jvm.Cond.code x code maxLocals ret :: tables_1) hat d (List.mem_cons_of_mem _ hd)
  obtain ⟨i0, ei0⟩ := is_v hg4
  obtain rfl : w0 = (.int i0) := Option.some.inj ei0
  obtain ⟨i1, ei1⟩ := is_v hg6
  obtain rfl : w1 = (.int i1) := Option.some.inj ei1
  obtain ⟨i2, ei2⟩ := is_v hg8
  obtain rfl : w2 = (.int i2) := Option.some.inj ei2
  obtain ⟨i3, ei3⟩ := is_v hg10
  obtain rfl : w3 = (.int i3) := Option.some.inj ei3
  obtain ⟨i4, ei4⟩ := is_v hg12
  obtain rfl : w4 = (.int i4) := Option.some.inj ei4
  obtain ⟨i5, ei5⟩ := is_v hg13
  obtain rfl : w5 = (.int i5) := Option.some.inj ei5
  obtain ⟨n, o, h1, h2, h3, _, L, rfl, ⟨rfl, N⟩, hq⟩ := rm0 l s _ hw tables_1 i0 i1 i2 i3 i4 i5  s.heap s.heap.size (Nat.le_refl _)  p e ha hc hk s m _ below hf ((Spec.applies_iff_loose hf).mp happ).1 ⟨rfl, State.Warmed39.refl s, rfl⟩ trivial
  refine ⟨n, _, h1, h2, h3, hpost _ _ _ _ _ _ ⟨Cond.after_iff.mpr rfl, Cond.after_iff.mpr (eq_i res_at (Term.int_eval (1)) rfl), trivial⟩ ⟨hq.1, hq.2.1, (hq.2.2.sift fun y hy => Or.inr (N y hy)).mono (by decide) (by decide)⟩⟩
theorem main_1_1 : Claimed_1_1 := comes_1 fun _ _ _ _ _ _ h hF => ⟨h.1, hF⟩
theorem main_1_2 : Claimed_1_2 := comes_1 fun _ _ _ _ _ _ h hF => ⟨h.2.1, hF⟩
end Jvm.Pilot.@@N@@
namespace Jvm.Pilot.@@N@@
open Jvm Jvm.ClassFile Sem Op Lib Jvm.Free Jvm.Stand Jvm.Pilot.@@N@@.Jvm.D
/-! MADE BY PROGRAM (witnessworld.py) out of the Statement's table words and the real class files: 10 classes; the members and pool entries that the words name. The judged class is class 1, her method 1. -/
namespace start1
open Jvm.ClassFile
def u (s : String) : CpInfo := .utf8 (stringToUtf16 s)
/-- a pool by its gaps: so many unusable entries, then the entry; so many at the end -/
def gap : Nat → List CpInfo → List CpInfo
  | 0, r => r
  | n + 1, r => .unusable :: gap n r
def poolList (es : List (Nat × CpInfo)) (last : Nat) : List CpInfo := es.foldr (fun e r => gap e.1 (e.2 :: r)) (gap last [])
def pool (es : List (Nat × CpInfo)) (last : Nat) : Array CpInfo := ⟨poolList es last⟩
def fileOf (pool : Array CpInfo) (this : Nat) (attrs : Array Attribute := #[]) (ms : Array MethodInfo := #[]) (fl : Nat := 33) (sup : Nat := 0) (ifs : Array Nat := #[]) (fds : Array FieldInfo := #[]) : ClassFile where
  minorVersion := 0
  majorVersion := 65
  constantPool := pool
  accessFlags := fl
  thisClass := this
  superClass := sup
  interfaces := ifs
  fields := fds
  methods := ms
  attributes := attrs
def plain (name : String) (sup : Option ClassId) : Class where
  name := name
  kind := .ordinary
  loader := none
  accessFlags := 33
  super := sup
  interfaces := #[]
  cf := none
  fields := #[]
  methods := #[]
  instanceTypes := #[]
  staticTypes := #[]
  resolved := #[]
  callSites := []
  init := .initialized
  statics := none
  mirror := none

def pool0 : Array CpInfo := pool [(5, u "<init>"), (0, u "()V"), (1, .class_ 10), (1, u "java/lang/Object")] 113

def k0c0 : Code := { maxStack := 0, maxLocals := 1, code := object_method_1_code, exceptionTable := #[], attributes := #[] }
def k0m0 : Method := { name := "<init>", desc := "()V", sig := { parameters := [], returnType := none }, accessFlags := 1, code := some k0c0 }
/-- java/lang/Object -/
def k0 : Class := { plain "java/lang/Object" none with
  accessFlags := 33
  interfaces := #[]
  cf := some (fileOf pool0 8 #[] #[{ accessFlags := 1, nameIndex := 5, descriptorIndex := 6, attributes := #[] }] 33 0 #[] #[])
  fields := #[]
  methods := #[k0m0]
  instanceTypes := #[]
  staticTypes := #[]
  resolved := Array.replicate 124 none
  statics := none }

def pool1 : Array CpInfo := pool [(2, .class_ 4), (1, u "java/lang/Object"), (0, u "<init>"), (0, u "()V"), (0, .class_ 8), (0, u "com/example/shardwright/shardwright/workload/BikeShareAudit"), (0, .methodref 7 10), (0, .nameAndType 5 11), (0, u "(IIIIZZI)V"), (0, .methodref 7 13), (0, .nameAndType 14 15), (0, u "holds"), (0, u "()Z"), (0, .class_ 17), (0, u "com/example/shardwright/shardwright/workload/BikeShareAuditHoldsPinLaw"), (2, u "law"), (0, u "(IIIIII)Z")] 3

def k1m0 : Method := { name := "<init>", desc := "()V", sig := { parameters := [], returnType := none }, accessFlags := 2, code := none }
def k1c1 : Code := { maxStack := 9, maxLocals := 10, code := code, exceptionTable := #[], attributes := #[] }
def k1m1 : Method := { name := "law", desc := "(IIIIII)Z", sig := { parameters := [.int, .int, .int, .int, .int, .int], returnType := some .boolean }, accessFlags := 9, code := some k1c1 }
/-- com/example/shardwright/shardwright/workload/BikeShareAuditHoldsPinLaw -/
def k1 : Class := { plain "com/example/shardwright/shardwright/workload/BikeShareAuditHoldsPinLaw" (some 0) with
  accessFlags := 49
  interfaces := #[]
  cf := some (fileOf pool1 16 #[] #[{ accessFlags := 2, nameIndex := 5, descriptorIndex := 6, attributes := #[] }, { accessFlags := 9, nameIndex := 20, descriptorIndex := 21, attributes := #[] }] 49 2 #[] #[])
  fields := #[]
  methods := #[k1m0, k1m1]
  instanceTypes := #[]
  staticTypes := #[]
  resolved := Array.replicate 25 none
  statics := none }

def pool2 : Array CpInfo := pool [(1, .methodref 2 3), (0, .class_ 4), (0, .nameAndType 5 6), (0, u "java/lang/Object"), (0, u "<init>"), (0, u "()V"), (0, .class_ 8), (0, u "java/lang/Record")] 13

def k2c0 : Code := { maxStack := 1, maxLocals := 1, code := jdk_30_method_1_code, exceptionTable := #[], attributes := #[] }
def k2m0 : Method := { name := "<init>", desc := "()V", sig := { parameters := [], returnType := none }, accessFlags := 4, code := some k2c0 }
/-- java/lang/Record -/
def k2 : Class := { plain "java/lang/Record" (some 0) with
  accessFlags := 1057
  interfaces := #[]
  cf := some (fileOf pool2 7 #[] #[{ accessFlags := 4, nameIndex := 5, descriptorIndex := 6, attributes := #[] }] 1057 2 #[] #[])
  fields := #[]
  methods := #[k2m0]
  instanceTypes := #[]
  staticTypes := #[]
  resolved := Array.replicate 22 none
  statics := none }

def pool3 : Array CpInfo := pool [(1, .methodref 2 3), (0, .class_ 4), (0, .nameAndType 5 6), (0, u "java/lang/Record"), (0, u "<init>"), (0, u "()V"), (0, .fieldref 8 9), (0, .class_ 10), (0, .nameAndType 11 12), (0, u "com/example/shardwright/shardwright/workload/BikeShareAudit"), (0, u "users"), (0, u "I"), (0, .fieldref 8 14), (0, .nameAndType 15 12), (0, u "bikes"), (0, .fieldref 8 17), (0, .nameAndType 18 12), (0, u "riding"), (0, .fieldref 8 20), (0, .nameAndType 21 12), (0, u "openTrips"), (0, .fieldref 8 23), (0, .nameAndType 24 25), (0, u "money"), (0, u "Z"), (0, .fieldref 8 27), (0, .nameAndType 28 25), (0, u "trips"), (0, .fieldref 8 30), (0, .nameAndType 31 12), (0, u "negative"), (26, u "()Z"), (144, u "(IIIIZZI)V"), (17, u "holds")] 39

def k3c0 : Code := { maxStack := 2, maxLocals := 8, code := prog_192_method_1_code, exceptionTable := #[], attributes := #[] }
def k3m0 : Method := { name := "<init>", desc := "(IIIIZZI)V", sig := { parameters := [.int, .int, .int, .int, .boolean, .boolean, .int], returnType := none }, accessFlags := 1, code := some k3c0 }
def k3c1 : Code := { maxStack := 1, maxLocals := 1, code := prog_192_method_3_code, exceptionTable := #[], attributes := #[] }
def k3m1 : Method := { name := "holds", desc := "()Z", sig := { parameters := [], returnType := some .boolean }, accessFlags := 1, code := some k3c1 }
/-- com/example/shardwright/shardwright/workload/BikeShareAudit -/
def k3 : Class := { plain "com/example/shardwright/shardwright/workload/BikeShareAudit" (some 2) with
  accessFlags := 49
  interfaces := #[]
  cf := some (fileOf pool3 8 #[] #[{ accessFlags := 1, nameIndex := 5, descriptorIndex := 203, attributes := #[] }, { accessFlags := 1, nameIndex := 221, descriptorIndex := 58, attributes := #[] }] 49 2 #[] #[{ accessFlags := 18, nameIndex := 11, descriptorIndex := 12, attributes := #[] }, { accessFlags := 18, nameIndex := 15, descriptorIndex := 12, attributes := #[] }, { accessFlags := 18, nameIndex := 18, descriptorIndex := 12, attributes := #[] }, { accessFlags := 18, nameIndex := 21, descriptorIndex := 12, attributes := #[] }, { accessFlags := 18, nameIndex := 24, descriptorIndex := 25, attributes := #[] }, { accessFlags := 18, nameIndex := 28, descriptorIndex := 25, attributes := #[] }, { accessFlags := 18, nameIndex := 31, descriptorIndex := 12, attributes := #[] }])
  fields := #[{ name := "users", type := .int, accessFlags := 18, slot := 0, constantValue := 0 }, { name := "bikes", type := .int, accessFlags := 18, slot := 1, constantValue := 0 }, { name := "riding", type := .int, accessFlags := 18, slot := 2, constantValue := 0 }, { name := "openTrips", type := .int, accessFlags := 18, slot := 3, constantValue := 0 }, { name := "money", type := .boolean, accessFlags := 18, slot := 4, constantValue := 0 }, { name := "trips", type := .boolean, accessFlags := 18, slot := 5, constantValue := 0 }, { name := "negative", type := .int, accessFlags := 18, slot := 6, constantValue := 0 }]
  methods := #[k3m0, k3m1]
  instanceTypes := #[.int, .int, .int, .int, .boolean, .boolean, .int]
  staticTypes := #[]
  resolved := Array.replicate 261 none
  statics := none }

def pool4 : Array CpInfo := pool [(1, u "java/lang/Cloneable"), (0, .class_ 1), (0, u "java/lang/Object"), (0, .class_ 3)] 3

/-- java/lang/Cloneable -/
def k4 : Class := { plain "java/lang/Cloneable" (some 0) with
  accessFlags := 1537
  interfaces := #[]
  cf := some (fileOf pool4 2 #[] #[] 1537 4 #[] #[])
  fields := #[]
  methods := #[]
  instanceTypes := #[]
  staticTypes := #[]
  resolved := Array.replicate 8 none
  statics := none }

def pool5 : Array CpInfo := pool [(1, u "java/io/Serializable"), (0, .class_ 1), (0, u "java/lang/Object"), (0, .class_ 3)] 3

/-- java/io/Serializable -/
def k5 : Class := { plain "java/io/Serializable" (some 0) with
  accessFlags := 1537
  interfaces := #[]
  cf := some (fileOf pool5 2 #[] #[] 1537 4 #[] #[])
  fields := #[]
  methods := #[]
  instanceTypes := #[]
  staticTypes := #[]
  resolved := Array.replicate 8 none
  statics := none }

/-- the primitive byte -/
def k6 : Class := { plain "byte" none with kind := .primitive 'B', accessFlags := 0x411 }
/-- [B -/
def k7 : Class := { plain "[B" (some 0) with kind := .array 6 .byte, interfaces := #[4, 5], accessFlags := 1041 }

/-- the primitive int -/
def k8 : Class := { plain "int" none with kind := .primitive 'I', accessFlags := 0x411 }
/-- [I -/
def k9 : Class := { plain "[I" (some 0) with kind := .array 8 .int, interfaces := #[4, 5], accessFlags := 1041 }

def heap : Heap := #[]
def classes : Array Class := #[k0, k1, k2, k3, k4, k5, k6, k7, k8, k9]
def interned : List (Array UInt16 × Addr) := []
def slotsUsed : Nat := 0
def theMethod : MethodId := ⟨1, 1⟩
def args0 : Array Value := #[.int 5, .int 7, .int 1, .int 2, .int 3, .int 0]
def aboutOver (below : List Frame) : State where
  vm := { classes := classes, interned := interned.toArray }
  heap := heap
  slotsUsed := slotsUsed
  threads := #[{ frames := .invoking theMethod args0 :: below }]
def below0 : List Frame := [.native { method := ⟨0, 0⟩, args := #[] }]
def about1 : State := aboutOver below0
def p0 : Program := .bare "" "" ""
def e0 : Env := launch0.env 0 0 0
theorem w_frames : about1.frames = Frame.invoking theMethod args0 :: below0 := rfl
set_option maxRecDepth 65536 in
theorem w_args : argsFit about1.vm theMethod args0 = true := by decide +kernel
set_option maxRecDepth 65536 in
theorem w_heap : heapFits about1 = true := by decide +kernel
set_option maxRecDepth 65536 in
theorem w_runnable : about1.curStatus? = some .runnable := by decide +kernel
set_option maxRecDepth 65536 in
theorem w_alone : about1.alone = true := by decide +kernel
set_option maxRecDepth 65536 in
theorem w_named : about1.methodNamed? x = some theMethod := by decide +kernel
set_option maxRecDepth 65536 in
theorem w_hears : about1.hears theMethod below0 = true := by decide +kernel
set_option maxRecDepth 65536 in
theorem w_ripe : about1.ripe theMethod args0 below0 = true := by decide +kernel
theorem w_running : about1.status = .running := rfl
set_option maxRecDepth 65536 in
theorem w_room : about1.hasRoom e0.platform room_1 = true :=
  launch0.hasRoom_least _ room_1 (by decide +kernel) (by decide +kernel) (by decide +kernel) (by decide +kernel) (by decide +kernel) (by decide +kernel)
theorem allAtoms_all (ts : List Jvm.Cond) (a : Array Jvm.Value) (st : Jvm.State) : (allAtoms ts).before a st = ts.all (fun c => c.before a st) := by
  induction ts with
  | nil => rfl
  | cons c t ih =>
    show (Jvm.Cond.and c (allAtoms t)).before a st = _
    rw [Jvm.Cond.before_and, ih, List.all_cons]
def words1 : List Jvm.Cond := Jvm.Cond.code x code maxLocals ret :: tables_1
/-- a 'code' word, met by the world's own term for the bytes: nothing is compared byte by byte -/
theorem code_word {y : MethodName} {bytes : ByteArray} {mx : Nat} {rt : Option FieldType} {a : Array Value} {s : State} {m : MethodId} {meth : Method} {c : Code} (h1 : s.methodNamed? y = some m) (h2 : s.vm.method? m = some meth) (h3 : meth.code = some c) (h4 : c.code = bytes)
    (h5 : (c.maxLocals == mx && c.exceptionTable.isEmpty && decide (c.maxStack ≤ mostOperands) && decide (meth.sig.returnType = rt) && !meth.locks && decide (parseMethodDescriptor y.desc = some meth.sig)) = true) : (Jvm.Cond.code y bytes mx rt).before a s = true := by
  simp only [Bool.and_eq_true, beq_iff_eq, Bool.not_eq_true', decide_eq_true_eq] at h5
  obtain ⟨⟨⟨⟨⟨g1, g2⟩, g3⟩, g4⟩, g5⟩, g6⟩ := h5
  simp [Cond.before, Cond.holds, Cond.value, h1, h2, h3, h4, g1, g2, g3, g4, g5, g6]
def isCode : Jvm.Cond → Bool
  | .code _ _ _ _ => true
  | _ => false
theorem all_split {L : List Jvm.Cond} {P : Jvm.Cond → Bool} (h1 : L.all (fun c => isCode c || P c) = true) (h2 : ∀ c ∈ L.filter isCode, P c = true) : L.all P = true := by
  refine List.all_eq_true.mpr fun c hc => ?_
  have h := List.all_eq_true.mp h1 c hc
  rcases Bool.eq_false_or_eq_true (isCode c) with hi | hi
  · exact h2 c (List.mem_filter.mpr ⟨hc, hi⟩)
  · simpa [hi] using h
set_option maxRecDepth 65536 in
theorem w_c0 : (Jvm.Cond.code x code maxLocals ret).before args0 about1 = true := code_word (m := ⟨1, 1⟩) (meth := k1m1) (c := k1c1) (by decide +kernel) rfl rfl rfl (by decide +kernel)
set_option maxRecDepth 65536 in
theorem w_c1 : (Jvm.Cond.code ({ cls := "com/example/shardwright/shardwright/workload/BikeShareAudit", name := "<init>", desc := "(IIIIZZI)V" } : Jvm.MethodName) prog_192_method_1_code (8 : Nat) (Option.none : Option Jvm.ClassFile.FieldType)).before args0 about1 = true := code_word (m := ⟨3, 0⟩) (meth := k3m0) (c := k3c0) (by decide +kernel) rfl rfl rfl (by decide +kernel)
set_option maxRecDepth 65536 in
theorem w_c2 : (Jvm.Cond.code ({ cls := "java/lang/Record", name := "<init>", desc := "()V" } : Jvm.MethodName) jdk_30_method_1_code (1 : Nat) (Option.none : Option Jvm.ClassFile.FieldType)).before args0 about1 = true := code_word (m := ⟨2, 0⟩) (meth := k2m0) (c := k2c0) (by decide +kernel) rfl rfl rfl (by decide +kernel)
set_option maxRecDepth 65536 in
theorem w_c3 : (Jvm.Cond.code ({ cls := "java/lang/Object", name := "<init>", desc := "()V" } : Jvm.MethodName) object_method_1_code (1 : Nat) (Option.none : Option Jvm.ClassFile.FieldType)).before args0 about1 = true := code_word (m := ⟨0, 0⟩) (meth := k0m0) (c := k0c0) (by decide +kernel) rfl rfl rfl (by decide +kernel)
set_option maxRecDepth 65536 in
theorem w_c4 : (Jvm.Cond.code ({ cls := "com/example/shardwright/shardwright/workload/BikeShareAudit", name := "holds", desc := "()Z" } : Jvm.MethodName) prog_192_method_3_code (1 : Nat) (Option.some Jvm.ClassFile.FieldType.boolean)).before args0 about1 = true := code_word (m := ⟨3, 1⟩) (meth := k3m1) (c := k3c1) (by decide +kernel) rfl rfl rfl (by decide +kernel)
def codes1 : List Jvm.Cond := [Jvm.Cond.code x code maxLocals ret, Jvm.Cond.code ({ cls := "com/example/shardwright/shardwright/workload/BikeShareAudit", name := "<init>", desc := "(IIIIZZI)V" } : Jvm.MethodName) prog_192_method_1_code (8 : Nat) (Option.none : Option Jvm.ClassFile.FieldType), Jvm.Cond.code ({ cls := "java/lang/Record", name := "<init>", desc := "()V" } : Jvm.MethodName) jdk_30_method_1_code (1 : Nat) (Option.none : Option Jvm.ClassFile.FieldType), Jvm.Cond.code ({ cls := "java/lang/Object", name := "<init>", desc := "()V" } : Jvm.MethodName) object_method_1_code (1 : Nat) (Option.none : Option Jvm.ClassFile.FieldType), Jvm.Cond.code ({ cls := "com/example/shardwright/shardwright/workload/BikeShareAudit", name := "holds", desc := "()Z" } : Jvm.MethodName) prog_192_method_3_code (1 : Nat) (Option.some Jvm.ClassFile.FieldType.boolean)]
set_option maxRecDepth 65536 in
theorem codes_eq : words1.filter isCode = codes1 := rfl
theorem w_codes : ∀ c ∈ words1.filter isCode, c.before args0 about1 = true := by
  rw [codes_eq]
  intro c hc
  simp only [codes1, List.mem_cons, List.not_mem_nil, or_false] at hc
  rcases hc with rfl | rfl | rfl | rfl | rfl
  · exact w_c0
  · exact w_c1
  · exact w_c2
  · exact w_c3
  · exact w_c4
set_option maxRecDepth 65536 in
theorem w_t1 : (words1.take 24).all (fun c => isCode c || c.before args0 about1) = true := by decide +kernel
set_option maxRecDepth 65536 in
theorem w_t2 : (words1.drop 24).all (fun c => isCode c || c.before args0 about1) = true := by decide +kernel
theorem w_tables : (allAtoms (Jvm.Cond.code x code maxLocals ret :: tables_1)).before args0 about1 = true := by
  rw [allAtoms_all]
  show words1.all (fun c => c.before args0 about1) = true
  refine all_split ?_ w_codes
  rw [← List.take_append_drop 24 words1, List.all_append, w_t1, w_t2]
  rfl
set_option maxRecDepth 65536 in
theorem w_case : (Jvm.Cond.and given_1 narrow_1).before args0 about1 = true := by decide +kernel
theorem w_applies : (headSpec (Jvm.Cond.code x code maxLocals ret :: tables_1) room_1).applies x e0.platform about1 = true :=
  (Spec.applies_iff w_frames).mpr ⟨w_running, w_runnable, w_alone, w_named, w_hears, w_ripe, w_room, w_tables⟩
theorem atStart : AtStart classFile x code maxLocals ret World_1 tables_1 room_1 Calls_1 rest_1 Pre_1 launch0 p0 e0 about1 theMethod args0 below0 :=
  ⟨lists_1, trivial, launch0.admits_env _ _ _, launch0.least_env, fairChoices_fair.cas, fairChoices_fair.clock, w_frames, w_args, w_heap, w_applies, trivial, trivial, w_case⟩
end start1
theorem witness_1 : WitnessClaimed_1 := ⟨start1.p0, start1.e0, start1.about1, start1.theMethod, start1.args0, start1.below0, start1.atStart⟩
end Jvm.Pilot.@@N@@
