import JvmDerived
import JvmDerived.Pilot.@@N@@Statement
import JvmDerived.Pilot.@@N@@Code
set_option linter.unusedVariables false
set_option linter.unusedSimpArgs false
namespace Jvm.RoadKit
open Sem ClassFile Op Lib Jvm.Stand Jvm.Free Jvm.LawKit
section New
variable {p : Program} {l : Launch} {e : Env} {R : Room} {s : State} {m : MethodId} {args : Array Value} {below : List Frame} {meth : Method} {c : Code} {T : State} {locs : List Loc} {cells slots : Nat}
theorem retI (X : Stand p l e R s m args below meth c T locs cells slots) (hx : p.tables.exec = Jvm.exec) {pc : Nat} {Ls : Array Slot} {z : Int32} {rest : List Value} (hret : meth.sig.returnType = some .int) (hd : decode c.code pc = .ok (.ireturn, 1)) {fs : List Frame}
    (hl : ∀ (f : JFrame) (acts : List Action), f.method = m → f.locked = none → f.entered = [] → (doReturn e (T.setTop f) acts (some (.int z))).1 = T.setFrames fs) : Steps p.tables e below (T.setTop (mkF m pc Ls (.int z :: rest))) (T.setFrames fs) := by
  have hm' : T.vm.method? m = some meth := X.method'
  have hn : narrow .int (.int z) = .int z := rfl
  show Steps p.tables e below (T.setTop { method := m, pc := pc, locals := Ls, stack := _ :: rest, locked := none }) _
  jvm_step X.here [X.here.top, hx, hd, hm', hret, hn]
  first | (intro acts; rw [hl _ acts rfl rfl rfl]) | rw [hl _ _ rfl rfl rfl]
  exact Steps.refl _
end New
end Jvm.RoadKit
namespace Jvm.Pilot.@@N@@
open Jvm Jvm.ClassFile Sem Op Lib Jvm.Free Jvm.Stand Jvm.LawKit Jvm.RoadKit Bundle Jvm.Pilot.@@N@@.Jvm.D
theorem own_lt (a b : Int32) : a < b ↔ a.toInt < b.toInt := Int32.lt_iff_toInt_lt
theorem own_eq (a b : Int32) : a = b ↔ a.toInt = b.toInt := Int32.toInt_inj.symm
theorem own_getI (l : List Int32) (k : Nat) : (l.map Value.int).getD k (.int 0) = .int (l.getD k 0) := by
  induction l generalizing k with
  | nil => rfl
  | cons a t ih => cases k with
    | zero => rfl
    | succ k => exact ih k
theorem own_nv {z : Int32} (h : z = 0 ∨ z = 1) : narrow .boolean (.int z) = .int z := by rcases h with rfl | rfl <;> rfl
theorem own_fitb {z : Int32} (h : z = 0 ∨ z = 1) : fits .boolean (.int z) = true := by rcases h with rfl | rfl <;> rfl
theorem own_nar {z : Int32} (h : z = 0 ∨ z = 1) : nar .boolean z = z := by rcases h with rfl | rfl <;> rfl
def own_abs (x : Int64) : Int64 := if x < 0 then -x else x
theorem own_abs1 {x : Int64} (h : x < 0) : -x = own_abs x := by rw [own_abs, if_pos h]
theorem own_abs0 {x : Int64} (h : ¬ x < 0) : x = own_abs x := by rw [own_abs, if_neg h]
theorem own_absI (x : Int64) (h : -9223372036854775808 < x.toInt) : (x.toInt < 0 → (own_abs x).toInt = -x.toInt) ∧ (0 ≤ x.toInt → (own_abs x).toInt = x.toInt) := by
  have r := rng64 x
  constructor
  · intro q
    rw [own_abs, if_pos (by rw [Int64.lt_iff_toInt_lt]; exact q)]
    have u := c_lneg x
    have v := rng64 (-x)
    omega
  · intro q
    rw [own_abs, if_neg (by rw [Int64.lt_iff_toInt_lt]; show ¬ x.toInt < 0; omega)]
theorem own_q (a : Int32) : ((((a.toInt64) * ((0 : Int32).toInt64)) + ((a / (2 : Int32)).toInt64))) = (a / (2 : Int32)).toInt64 := by
  rw [show ((0 : Int32).toInt64) = 0 from rfl, Int64.mul_zero, Int64.zero_add]
theorem own_f1 (x y z : Int64) : (x + y) - y = x := by
  apply Int64.toInt_inj.mp
  have h1 := c_ladd x y
  have h2 := c_lsub (x + y) y
  have r1 := rng64 x
  have r2 := rng64 ((x + y) - y)
  omega
theorem own_half (a : Int32) : -2147483648 ≤ a.toInt ∧ a.toInt < 2147483648 ∧ (a / (2 : Int32)).toInt64.toInt = (a / (2 : Int32)).toInt ∧ (0 ≤ a.toInt → (a / (2 : Int32)).toInt = a.toInt / 2) ∧ (a.toInt < 0 → (a / (2 : Int32)).toInt = -((-a.toInt) / 2)) := by
  have r := rng32 a
  have d := c_idiv a 2 2 (by decide) (by decide)
  exact ⟨r.1, r.2, c_i2l _, d.1, d.2⟩
theorem own_two (a : Int32) : (((2 : Int64) * ((a / (2 : Int32)).toInt64))).toInt = 2 * (a / (2 : Int32)).toInt := by
  obtain ⟨h1, h2, h3, h4, h5⟩ := own_half a
  have m := c_lmul (2 : Int64) ((a / (2 : Int32)).toInt64)
  have r := rng64 ((2 : Int64) * ((a / (2 : Int32)).toInt64))
  rw [h3] at m
  simp only [Int64.reduceToInt] at m
  omega
theorem own_f2 (a : Int32) : ¬ ((1 : Int64) < own_abs ((a.toInt64) - ((2 : Int64) * ((a / (2 : Int32)).toInt64)))) := by
  obtain ⟨h1, h2, h3, h4, h5⟩ := own_half a
  have m := own_two a
  have s := c_lsub (a.toInt64) ((2 : Int64) * ((a / (2 : Int32)).toInt64))
  have r := rng64 ((a.toInt64) - ((2 : Int64) * ((a / (2 : Int32)).toInt64)))
  have i := c_i2l a
  rw [m, i] at s
  have u : ((a.toInt64) - ((2 : Int64) * ((a / (2 : Int32)).toInt64))).toInt = a.toInt - 2 * (a / (2 : Int32)).toInt := by omega
  have t := own_absI ((a.toInt64) - ((2 : Int64) * ((a / (2 : Int32)).toInt64))) (by omega)
  rw [Int64.lt_iff_toInt_lt]
  simp only [Int64.reduceToInt]
  omega
theorem own_f3 (a : Int32) : ¬ (own_abs (a.toInt64) < own_abs ((2 : Int64) * ((a / (2 : Int32)).toInt64))) := by
  obtain ⟨h1, h2, h3, h4, h5⟩ := own_half a
  have m := own_two a
  have i := c_i2l a
  have t := own_absI ((2 : Int64) * ((a / (2 : Int32)).toInt64)) (by omega)
  have v := own_absI (a.toInt64) (by omega)
  rw [Int64.lt_iff_toInt_lt]
  omega
theorem own_pn2 : plainName "java/lang/Record" = true := by first | (simp [plainName, overriddenIn]; done) | decide +kernel
theorem own_pn1 : plainName "com/example/leafcutter/leafcutter/Heartbeats" = true := by first | (simp [plainName, overriddenIn]; done) | decide +kernel
theorem own_pd0 : parseMethodDescriptor "()V" = some ⟨[], none⟩ := by decide +kernel
theorem own_pn4 : plainName "com/example/leafcutter/leafcutter/Heartbeats" = true := by first | (simp [plainName, overriddenIn]; done) | decide +kernel
theorem own_pn0 : plainName "com/example/leafcutter/leafcutter/HeartbeatsRetireAfterMsPinLaw" = true := by first | (simp [plainName, overriddenIn]; done) | decide +kernel
theorem own_pd1 : parseMethodDescriptor "(III)V" = some ⟨[.int, .int, .int], none⟩ := by decide +kernel
theorem own_pd2 : parseMethodDescriptor "()J" = some ⟨[], some .long⟩ := by decide +kernel
theorem own_pd3 : parseMethodDescriptor "(J)J" = some ⟨[.long], some .long⟩ := by decide +kernel
theorem own_d2_0 : decode jdk_30_method_1_code 0 = .ok (.aload_n 0, 1) := by decide +kernel
theorem own_d2_1 : decode jdk_30_method_1_code 1 = .ok (.invokespecial 1, 3) := by decide +kernel
theorem own_d2_4 : decode jdk_30_method_1_code 4 = .ok (.return_, 1) := by decide +kernel
theorem own_ef2 (m : MethodId) (x0 : Addr) : entryFrame m #[(.ref x0)] 1 = mkF m 0 #[.val (.ref x0)] [] := by first | (simp [entryFrame, mkF, argsToLocals, Value.category]; done) | rfl
def own_Q2 (Z : State) (a1 : Addr) (h0 : Heap) (n0 : Nat) (v : Option Value) (h : Heap) (L : List Loc) : Prop := v = none ∧ Fr n0 L ∧ h = h0
set_option maxRecDepth 65536 in
set_option maxHeartbeats 40000000 in
theorem rm2 (l : Launch) (Z : State) (a0 : Array Value) (hw : ∀ d ∈ tables_1, d.before a0 Z = true) (ws : List Jvm.Cond) (a1 : Addr) (h0 : Heap) (n0 : Nat) (Z0 : n0 ≤ h0.size)  :
    MetFree l (⟨"java/lang/Record", "<init>", "()V"⟩ : MethodName) (head1 (Jvm.Cond.code (⟨"java/lang/Record", "<init>", "()V"⟩ : MethodName) jdk_30_method_1_code 1 none :: ws) ({ frames := 1, cells := 0, slots := 0, locals := 12 } : Room)) (fun a U => a = #[(.ref a1)] ∧ Z.Warmed39 U.vm ∧ U.heap = h0) (fun _ _ _ _ _ => True) (fun _ U o U' => ∃ v L, o = .returned v ∧ own_Q2 Z a1 h0 n0 v U'.heap L ∧ FrameEnd U o U' L ({ frames := 1, cells := 0, slots := 0, locals := 12 } : Room).cells ({ frames := 1, cells := 0, slots := 0, locals := 12 } : Room).slots) := by
  refine MetFree.of_bodySF (plainFor_of_name own_pn2) hisR ?_
  intro p e s m args below meth c s₁ Bd hml0 hP hK
  obtain ⟨rfl, hZ, hh⟩ := hP
  have hx := Bd.exec
  have hby := Bd.bytes
  have hml : c.maxLocals = 1 := hml0
  have hown : s.vm.findClass "java/lang/Record" = some m.cls := findClass_of_methodNamed Bd.named
  have hnm := (name_of_methodNamed Bd.named Bd.method).1
  have X0 : Stand p l e ({ frames := 1, cells := 0, slots := 0, locals := 12 } : Room) s m #[(.ref a1)] below meth c s₁ [] 0 0 := Stand.of_body Bd
  have e0 : s₁.heap = h0 := by rw [← hh, Bd.state]; rfl
  have N0 := Fr.nil n0
  have pre0 : ∀ t, Steps p.tables e below (s₁.setTop (mkF m 0 #[.val (.ref a1)] [])) t → Steps p.tables e below (s₁.setTop (entryFrame m #[(.ref a1)] 1)) t := fun t k => castTop (own_ef2 m a1) k
  obtain ⟨T1, X1, e1, st1⟩ := initO X0 hx hZ hown (hw _ (List.mem_of_getElem? (i := 11) rfl)) (hw _ (List.mem_of_getElem? (i := 12) rfl)) (hw _ (List.mem_of_getElem? (i := 13) rfl)) e0 (g := (mkF m 1 #[.val (.ref a1)] [(.ref a1)])) rfl (by rw [hml]; rfl) rfl (hb hby own_d2_1) (by decide) (W := 0) (by show 2 * 0 + _ ≤ _; exact Nat.le_of_eq rfl) (by decide)
  have pre2 : ∀ t, Steps p.tables e below (T1.setTop (mkF m 4 #[.val (.ref a1)] [])) t → Steps p.tables e below (s₁.setTop (entryFrame m #[(.ref a1)] 1)) t := by
    intro t k
    refine pre0 _ ?_
    show Steps p.tables e below (s₁.setTop (mkF m 0 #[.val (.ref a1)] [])) _
    refine XS.aloadN X0.here hx rfl (hb hby own_d2_0) rfl rfl ?_
    show Steps p.tables e below (s₁.setTop (mkF m 1 #[.val (.ref a1)] [(.ref a1)])) _
    refine st1 _ ?_
    exact k
  obtain ⟨fs, hr, hrun, hended, hW, hsame⟩ := X1.leave (v := none) (fun _ => rfl)
  refine ⟨_, _, pre2 _ ?_, hrun, hended, _, _, rfl, ?_, ⟨_, rfl⟩, hW, hsame.mono (by decide) (by decide)⟩
  · show Steps p.tables e below (T1.setTop (mkF m 4 #[.val (.ref a1)] [])) _
    exact X1.returnOut hx Bd.returns (hb hby own_d2_4) hr
  · show own_Q2 Z a1 h0 n0 _ T1.heap _
    rw [e1]
    exact ⟨rfl, N0, rfl⟩
theorem own_d1_0 : decode prog_17_method_1_code 0 = .ok (.aload_n 0, 1) := by decide +kernel
theorem own_d1_1 : decode prog_17_method_1_code 1 = .ok (.invokespecial 1, 3) := by decide +kernel
theorem own_d1_4 : decode prog_17_method_1_code 4 = .ok (.aload_n 0, 1) := by decide +kernel
theorem own_d1_5 : decode prog_17_method_1_code 5 = .ok (.iload_n 1, 1) := by decide +kernel
theorem own_d1_6 : decode prog_17_method_1_code 6 = .ok (.putfield 7, 3) := by decide +kernel
theorem own_d1_9 : decode prog_17_method_1_code 9 = .ok (.aload_n 0, 1) := by decide +kernel
theorem own_d1_10 : decode prog_17_method_1_code 10 = .ok (.iload_n 2, 1) := by decide +kernel
theorem own_d1_11 : decode prog_17_method_1_code 11 = .ok (.putfield 13, 3) := by decide +kernel
theorem own_d1_14 : decode prog_17_method_1_code 14 = .ok (.aload_n 0, 1) := by decide +kernel
theorem own_d1_15 : decode prog_17_method_1_code 15 = .ok (.iload_n 3, 1) := by decide +kernel
theorem own_d1_16 : decode prog_17_method_1_code 16 = .ok (.putfield 16, 3) := by decide +kernel
theorem own_d1_19 : decode prog_17_method_1_code 19 = .ok (.return_, 1) := by decide +kernel
theorem own_ef1 (m : MethodId) (x0 : Addr) (x1 : Int32) (x2 : Int32) (x3 : Int32) : entryFrame m #[(.ref x0), (.int x1), (.int x2), (.int x3)] 4 = mkF m 0 #[.val (.ref x0), .val (.int x1), .val (.int x2), .val (.int x3)] [] := by first | (simp [entryFrame, mkF, argsToLocals, Value.category]; done) | rfl
def own_Q1 (Z : State) (a1 : Addr) (p2 : Int32) (p3 : Int32) (p4 : Int32) (u0 : Value) (u1 : Value) (u2 : Value) (h0 : Heap) (n0 : Nat) (v : Option Value) (h : Heap) (L : List Loc) : Prop := v = none ∧ Fr n0 L ∧ Keep h0 h [a1] ∧ Exa Z h a1 "com/example/leafcutter/leafcutter/Heartbeats" ∧ Fld Z h a1 "com/example/leafcutter/leafcutter/Heartbeats" "rateMs" "I" (.int p2) ∧ Fld Z h a1 "com/example/leafcutter/leafcutter/Heartbeats" "threshold" "I" (.int p3) ∧ Fld Z h a1 "com/example/leafcutter/leafcutter/Heartbeats" "retiredKeepMs" "I" (.int p4)
set_option maxRecDepth 65536 in
set_option maxHeartbeats 40000000 in
theorem rm1 (l : Launch) (Z : State) (a0 : Array Value) (hw : ∀ d ∈ tables_1, d.before a0 Z = true) (ws : List Jvm.Cond) (a1 : Addr) (p2 : Int32) (p3 : Int32) (p4 : Int32) (u0 : Value) (u1 : Value) (u2 : Value) (h0 : Heap) (n0 : Nat) (Z0 : n0 ≤ h0.size) (E_a1 : Exa Z h0 a1 "com/example/leafcutter/leafcutter/Heartbeats") (F_rateMs_a1 : Fld Z h0 a1 "com/example/leafcutter/leafcutter/Heartbeats" "rateMs" "I" u0) (F_threshold_a1 : Fld Z h0 a1 "com/example/leafcutter/leafcutter/Heartbeats" "threshold" "I" u1) (F_retiredKeepMs_a1 : Fld Z h0 a1 "com/example/leafcutter/leafcutter/Heartbeats" "retiredKeepMs" "I" u2) (g_a1 : n0 ≤ a1) :
    MetFree l (⟨"com/example/leafcutter/leafcutter/Heartbeats", "<init>", "(III)V"⟩ : MethodName) (head1 (Jvm.Cond.code (⟨"com/example/leafcutter/leafcutter/Heartbeats", "<init>", "(III)V"⟩ : MethodName) prog_17_method_1_code 4 none :: ws) ({ frames := 2, cells := 0, slots := 0, locals := 24 } : Room)) (fun a U => a = #[(.ref a1), (.int p2), (.int p3), (.int p4)] ∧ Z.Warmed39 U.vm ∧ U.heap = h0) (fun _ _ _ _ _ => True) (fun _ U o U' => ∃ v L, o = .returned v ∧ own_Q1 Z a1 p2 p3 p4 u0 u1 u2 h0 n0 v U'.heap L ∧ FrameEnd U o U' L ({ frames := 2, cells := 0, slots := 0, locals := 24 } : Room).cells ({ frames := 2, cells := 0, slots := 0, locals := 24 } : Room).slots) := by
  refine MetFree.of_bodySF (plainFor_of_name own_pn1) hisR ?_
  intro p e s m args below meth c s₁ Bd hml0 hP hK
  obtain ⟨rfl, hZ, hh⟩ := hP
  have hx := Bd.exec
  have hby := Bd.bytes
  have hml : c.maxLocals = 4 := hml0
  have hown : s.vm.findClass "com/example/leafcutter/leafcutter/Heartbeats" = some m.cls := findClass_of_methodNamed Bd.named
  have hnm := (name_of_methodNamed Bd.named Bd.method).1
  have X0 : Stand p l e ({ frames := 2, cells := 0, slots := 0, locals := 24 } : Room) s m #[(.ref a1), (.int p2), (.int p3), (.int p4)] below meth c s₁ [] 0 0 := Stand.of_body Bd
  have e0 : s₁.heap = h0 := by rw [← hh, Bd.state]; rfl
  have N0 := Fr.nil n0
  have pre0 : ∀ t, Steps p.tables e below (s₁.setTop (mkF m 0 #[.val (.ref a1), .val (.int p2), .val (.int p3), .val (.int p4)] [])) t → Steps p.tables e below (s₁.setTop (entryFrame m #[(.ref a1), (.int p2), (.int p3), (.int p4)] 4)) t := fun t k => castTop (own_ef1 m a1 p2 p3 p4) k
  have K0 := Keep.refl h0 [a1]
  obtain ⟨_, _, ⟨T1, L1, k1, n1⟩, -, X1, ⟨Lc1, hQ1, l1, y1, z1⟩, st1⟩ := X0.specialBack hx (y := (⟨"java/lang/Record", "<init>", "()V"⟩ : MethodName)) rfl hown (mvT hZ (hw _ (List.mem_of_getElem? (i := 6) rfl))) (mvT hZ (hw _ (List.mem_of_getElem? (i := 7) rfl))) (mvT hZ (hw _ (List.mem_of_getElem? (i := 10) rfl))) (by decide) (backOf (W := 0) (rm2 l Z a0 hw [] a1  h0 n0 Z0 ) hZ (hw _ (List.mem_of_getElem? (i := 10) rfl)) (hw _ (List.mem_of_getElem? (i := 9) rfl)) (by decide) (by decide)) (g := (mkF m 1 #[.val (.ref a1), .val (.int p2), .val (.int p3), .val (.int p4)] [(.ref a1)])) rfl (by rw [hml]; rfl) (Steps.refl _) (a := a1) (argsL := []) (rest := []) (lenOf own_pd0 rfl) rfl (by show 2 * 0 + _ ≤ _; exact Nat.le_of_eq rfl) (hb hby own_d1_1) (fun _ _ => ⟨rfl, e0, (by decide : 0 + 0 ≤ _), (by decide : 0 + 0 ≤ _)⟩)
  dsimp only [Pt.U, Pt.locs, Pt.cells, Pt.slots] at X1 l1 y1 z1 st1 hQ1
  subst l1 y1 z1
  obtain ⟨rfl, N1q, e1⟩ := hQ1
  have N1 := Fr.app N0 N1q
  obtain ⟨T2, h2, X2, e2, W2, st2⟩ := putF X1 hx hZ hown (host := "") (Or.inl (hw _ (List.mem_of_getElem? (i := 14) rfl))) Via.refl e1 F_rateMs_a1 E_a1 (Or.inr ⟨(hw _ (List.mem_of_getElem? (i := 15) rfl)), rfl, hnm⟩) (hw _ (List.mem_of_getElem? (i := 1) rfl)) (ty := .int) (by decide) rfl rfl (g := (mkF m 6 #[.val (.ref a1), .val (.int p2), .val (.int p3), .val (.int p4)] [(.int p2), (.ref a1)])) rfl rfl (hb hby own_d1_6)
  have E_a1 := E_a1.wr W2
  have F_threshold_a1 := F_threshold_a1.other W2 (Or.inr (slot_ne (Or.inr (hw _ (List.mem_of_getElem? (i := 17) rfl))) (Or.inr (hw _ (List.mem_of_getElem? (i := 15) rfl))) (by decide) (t := .int) (t' := .int) (by decide) (by decide)))
  have F_retiredKeepMs_a1 := F_retiredKeepMs_a1.other W2 (Or.inr (slot_ne (Or.inr (hw _ (List.mem_of_getElem? (i := 19) rfl))) (Or.inr (hw _ (List.mem_of_getElem? (i := 15) rfl))) (by decide) (t := .int) (t' := .int) (by decide) (by decide)))
  have Z2 : n0 ≤ h2.size := Nat.le_trans Z0 (Keep.of_wr W2).1
  have K2 := K0.wr W2 (Or.inl (List.mem_of_getElem? (i := 0) rfl))
  have N2 := Fr.snoc X2 N1 g_a1
  have F_rateMs_a1 : Fld Z h2 a1 "com/example/leafcutter/leafcutter/Heartbeats" "rateMs" "I" (.int p2) := F_rateMs_a1.same W2
  obtain ⟨T3, h3, X3, e3, W3, st3⟩ := putF X2 hx hZ hown (host := "") (Or.inl (hw _ (List.mem_of_getElem? (i := 16) rfl))) Via.refl e2 F_threshold_a1 E_a1 (Or.inr ⟨(hw _ (List.mem_of_getElem? (i := 17) rfl)), rfl, hnm⟩) (hw _ (List.mem_of_getElem? (i := 1) rfl)) (ty := .int) (by decide) rfl rfl (g := (mkF m 11 #[.val (.ref a1), .val (.int p2), .val (.int p3), .val (.int p4)] [(.int p3), (.ref a1)])) rfl rfl (hb hby own_d1_11)
  have E_a1 := E_a1.wr W3
  have F_rateMs_a1 := F_rateMs_a1.other W3 (Or.inr (slot_ne (Or.inr (hw _ (List.mem_of_getElem? (i := 15) rfl))) (Or.inr (hw _ (List.mem_of_getElem? (i := 17) rfl))) (by decide) (t := .int) (t' := .int) (by decide) (by decide)))
  have F_retiredKeepMs_a1 := F_retiredKeepMs_a1.other W3 (Or.inr (slot_ne (Or.inr (hw _ (List.mem_of_getElem? (i := 19) rfl))) (Or.inr (hw _ (List.mem_of_getElem? (i := 17) rfl))) (by decide) (t := .int) (t' := .int) (by decide) (by decide)))
  have Z3 : n0 ≤ h3.size := Nat.le_trans Z2 (Keep.of_wr W3).1
  have K3 := K2.wr W3 (Or.inl (List.mem_of_getElem? (i := 0) rfl))
  have N3 := Fr.snoc X3 N2 g_a1
  have F_threshold_a1 : Fld Z h3 a1 "com/example/leafcutter/leafcutter/Heartbeats" "threshold" "I" (.int p3) := F_threshold_a1.same W3
  obtain ⟨T4, h4, X4, e4, W4, st4⟩ := putF X3 hx hZ hown (host := "") (Or.inl (hw _ (List.mem_of_getElem? (i := 18) rfl))) Via.refl e3 F_retiredKeepMs_a1 E_a1 (Or.inr ⟨(hw _ (List.mem_of_getElem? (i := 19) rfl)), rfl, hnm⟩) (hw _ (List.mem_of_getElem? (i := 1) rfl)) (ty := .int) (by decide) rfl rfl (g := (mkF m 16 #[.val (.ref a1), .val (.int p2), .val (.int p3), .val (.int p4)] [(.int p4), (.ref a1)])) rfl rfl (hb hby own_d1_16)
  have E_a1 := E_a1.wr W4
  have F_rateMs_a1 := F_rateMs_a1.other W4 (Or.inr (slot_ne (Or.inr (hw _ (List.mem_of_getElem? (i := 15) rfl))) (Or.inr (hw _ (List.mem_of_getElem? (i := 19) rfl))) (by decide) (t := .int) (t' := .int) (by decide) (by decide)))
  have F_threshold_a1 := F_threshold_a1.other W4 (Or.inr (slot_ne (Or.inr (hw _ (List.mem_of_getElem? (i := 17) rfl))) (Or.inr (hw _ (List.mem_of_getElem? (i := 19) rfl))) (by decide) (t := .int) (t' := .int) (by decide) (by decide)))
  have Z4 : n0 ≤ h4.size := Nat.le_trans Z3 (Keep.of_wr W4).1
  have K4 := K3.wr W4 (Or.inl (List.mem_of_getElem? (i := 0) rfl))
  have N4 := Fr.snoc X4 N3 g_a1
  have F_retiredKeepMs_a1 : Fld Z h4 a1 "com/example/leafcutter/leafcutter/Heartbeats" "retiredKeepMs" "I" (.int p4) := F_retiredKeepMs_a1.same W4
  have pre5 : ∀ t, Steps p.tables e below (T4.setTop (mkF m 19 #[.val (.ref a1), .val (.int p2), .val (.int p3), .val (.int p4)] [])) t → Steps p.tables e below (s₁.setTop (entryFrame m #[(.ref a1), (.int p2), (.int p3), (.int p4)] 4)) t := by
    intro t k
    refine pre0 _ ?_
    show Steps p.tables e below (s₁.setTop (mkF m 0 #[.val (.ref a1), .val (.int p2), .val (.int p3), .val (.int p4)] [])) _
    refine XS.aloadN X0.here hx rfl (hb hby own_d1_0) rfl rfl ?_
    show Steps p.tables e below (s₁.setTop (mkF m 1 #[.val (.ref a1), .val (.int p2), .val (.int p3), .val (.int p4)] [(.ref a1)])) _
    refine st1.trans ?_
    show Steps p.tables e below (T1.setTop (mkF m 4 #[.val (.ref a1), .val (.int p2), .val (.int p3), .val (.int p4)] [])) _
    refine XS.aloadN X1.here hx rfl (hb hby own_d1_4) rfl rfl ?_
    show Steps p.tables e below (T1.setTop (mkF m 5 #[.val (.ref a1), .val (.int p2), .val (.int p3), .val (.int p4)] [(.ref a1)])) _
    refine XS.iloadN X1.here hx rfl (hb hby own_d1_5) rfl ?_
    show Steps p.tables e below (T1.setTop (mkF m 6 #[.val (.ref a1), .val (.int p2), .val (.int p3), .val (.int p4)] [(.int p2), (.ref a1)])) _
    refine st2 _ ?_
    show Steps p.tables e below (T2.setTop (mkF m 9 #[.val (.ref a1), .val (.int p2), .val (.int p3), .val (.int p4)] [])) _
    refine XS.aloadN X2.here hx rfl (hb hby own_d1_9) rfl rfl ?_
    show Steps p.tables e below (T2.setTop (mkF m 10 #[.val (.ref a1), .val (.int p2), .val (.int p3), .val (.int p4)] [(.ref a1)])) _
    refine XS.iloadN X2.here hx rfl (hb hby own_d1_10) rfl ?_
    show Steps p.tables e below (T2.setTop (mkF m 11 #[.val (.ref a1), .val (.int p2), .val (.int p3), .val (.int p4)] [(.int p3), (.ref a1)])) _
    refine st3 _ ?_
    show Steps p.tables e below (T3.setTop (mkF m 14 #[.val (.ref a1), .val (.int p2), .val (.int p3), .val (.int p4)] [])) _
    refine XS.aloadN X3.here hx rfl (hb hby own_d1_14) rfl rfl ?_
    show Steps p.tables e below (T3.setTop (mkF m 15 #[.val (.ref a1), .val (.int p2), .val (.int p3), .val (.int p4)] [(.ref a1)])) _
    refine XS.iloadN X3.here hx rfl (hb hby own_d1_15) rfl ?_
    show Steps p.tables e below (T3.setTop (mkF m 16 #[.val (.ref a1), .val (.int p2), .val (.int p3), .val (.int p4)] [(.int p4), (.ref a1)])) _
    refine st4 _ ?_
    exact k
  obtain ⟨fs, hr, hrun, hended, hW, hsame⟩ := X4.leave (v := none) (fun _ => rfl)
  refine ⟨_, _, pre5 _ ?_, hrun, hended, _, _, rfl, ?_, ⟨_, rfl⟩, hW, hsame.mono (by decide) (by decide)⟩
  · show Steps p.tables e below (T4.setTop (mkF m 19 #[.val (.ref a1), .val (.int p2), .val (.int p3), .val (.int p4)] [])) _
    exact X4.returnOut hx Bd.returns (hb hby own_d1_19) hr
  · show own_Q1 Z a1 p2 p3 p4 u0 u1 u2 h0 n0 _ T4.heap _
    rw [e4]
    exact ⟨rfl, N4, K4, E_a1, F_rateMs_a1, F_threshold_a1, F_retiredKeepMs_a1⟩
theorem own_d4_0 : decode prog_17_method_2_code 0 = .ok (.aload_n 0, 1) := by decide +kernel
theorem own_d4_1 : decode prog_17_method_2_code 1 = .ok (.getfield 7, 3) := by decide +kernel
theorem own_d4_4 : decode prog_17_method_2_code 4 = .ok (.i2l, 1) := by decide +kernel
theorem own_d4_5 : decode prog_17_method_2_code 5 = .ok (.aload_n 0, 1) := by decide +kernel
theorem own_d4_6 : decode prog_17_method_2_code 6 = .ok (.getfield 13, 3) := by decide +kernel
theorem own_d4_9 : decode prog_17_method_2_code 9 = .ok (.i2l, 1) := by decide +kernel
theorem own_d4_10 : decode prog_17_method_2_code 10 = .ok (.lmul, 1) := by decide +kernel
theorem own_d4_11 : decode prog_17_method_2_code 11 = .ok (.aload_n 0, 1) := by decide +kernel
theorem own_d4_12 : decode prog_17_method_2_code 12 = .ok (.getfield 7, 3) := by decide +kernel
theorem own_d4_15 : decode prog_17_method_2_code 15 = .ok (.iconst 2, 1) := by decide +kernel
theorem own_d4_16 : decode prog_17_method_2_code 16 = .ok (.idiv, 1) := by decide +kernel
theorem own_d4_17 : decode prog_17_method_2_code 17 = .ok (.i2l, 1) := by decide +kernel
theorem own_d4_18 : decode prog_17_method_2_code 18 = .ok (.ladd, 1) := by decide +kernel
theorem own_d4_19 : decode prog_17_method_2_code 19 = .ok (.lreturn, 1) := by decide +kernel
theorem own_ef4 (m : MethodId) (x0 : Addr) : entryFrame m #[(.ref x0)] 1 = mkF m 0 #[.val (.ref x0)] [] := by first | (simp [entryFrame, mkF, argsToLocals, Value.category]; done) | rfl
def own_Q4 (Z : State) (a1 : Addr) (w1 : Int32) (w2 : Int32) (h0 : Heap) (n0 : Nat) (v : Option Value) (h : Heap) (L : List Loc) : Prop := v = some (.long (((w1.toInt64) * (w2.toInt64)) + ((w1 / (2 : Int32)).toInt64))) ∧ Fr n0 L ∧ h = h0
set_option maxRecDepth 65536 in
set_option maxHeartbeats 40000000 in
theorem rm4 (l : Launch) (Z : State) (a0 : Array Value) (hw : ∀ d ∈ tables_1, d.before a0 Z = true) (ws : List Jvm.Cond) (a1 : Addr) (w1 : Int32) (w2 : Int32) (h0 : Heap) (n0 : Nat) (Z0 : n0 ≤ h0.size) (F_rateMs_a1 : Fld Z h0 a1 "com/example/leafcutter/leafcutter/Heartbeats" "rateMs" "I" (.int w1)) (F_threshold_a1 : Fld Z h0 a1 "com/example/leafcutter/leafcutter/Heartbeats" "threshold" "I" (.int w2)) :
    MetFree l (⟨"com/example/leafcutter/leafcutter/Heartbeats", "retireAfterMs", "()J"⟩ : MethodName) (head1 (Jvm.Cond.code (⟨"com/example/leafcutter/leafcutter/Heartbeats", "retireAfterMs", "()J"⟩ : MethodName) prog_17_method_2_code 1 (some .long) :: ws) ({ frames := 0, cells := 0, slots := 0, locals := 0 } : Room)) (fun a U => a = #[(.ref a1)] ∧ Z.Warmed39 U.vm ∧ U.heap = h0) (fun _ _ _ _ _ => True) (fun _ U o U' => ∃ v L, o = .returned v ∧ own_Q4 Z a1 w1 w2 h0 n0 v U'.heap L ∧ FrameEnd U o U' L ({ frames := 0, cells := 0, slots := 0, locals := 0 } : Room).cells ({ frames := 0, cells := 0, slots := 0, locals := 0 } : Room).slots) := by
  refine MetFree.of_bodySF (plainFor_of_name own_pn4) hisR ?_
  intro p e s m args below meth c s₁ Bd hml0 hP hK
  obtain ⟨rfl, hZ, hh⟩ := hP
  have hx := Bd.exec
  have hby := Bd.bytes
  have hml : c.maxLocals = 1 := hml0
  have hown : s.vm.findClass "com/example/leafcutter/leafcutter/Heartbeats" = some m.cls := findClass_of_methodNamed Bd.named
  have hnm := (name_of_methodNamed Bd.named Bd.method).1
  have X0 : Stand p l e ({ frames := 0, cells := 0, slots := 0, locals := 0 } : Room) s m #[(.ref a1)] below meth c s₁ [] 0 0 := Stand.of_body Bd
  have e0 : s₁.heap = h0 := by rw [← hh, Bd.state]; rfl
  have N0 := Fr.nil n0
  have pre0 : ∀ t, Steps p.tables e below (s₁.setTop (mkF m 0 #[.val (.ref a1)] [])) t → Steps p.tables e below (s₁.setTop (entryFrame m #[(.ref a1)] 1)) t := fun t k => castTop (own_ef4 m a1) k
  obtain ⟨T1, X1, e1, st1⟩ := getF X0 hx hZ hown (host := "") (Or.inl (hw _ (List.mem_of_getElem? (i := 14) rfl))) Via.refl e0 F_rateMs_a1 (g := (mkF m 1 #[.val (.ref a1)] [(.ref a1)])) rfl rfl (hb hby own_d4_1)
  obtain ⟨T2, X2, e2, st2⟩ := getF X1 hx hZ hown (host := "") (Or.inl (hw _ (List.mem_of_getElem? (i := 16) rfl))) Via.refl e1 F_threshold_a1 (g := (mkF m 6 #[.val (.ref a1)] [(.ref a1), (.long (w1.toInt64))])) rfl rfl (hb hby own_d4_6)
  obtain ⟨T3, X3, e3, st3⟩ := getF X2 hx hZ hown (host := "") (Or.inl (hw _ (List.mem_of_getElem? (i := 14) rfl))) Via.refl e2 F_rateMs_a1 (g := (mkF m 12 #[.val (.ref a1)] [(.ref a1), (.long ((w1.toInt64) * (w2.toInt64)))])) rfl rfl (hb hby own_d4_12)
  have pre4 : ∀ t, Steps p.tables e below (T3.setTop (mkF m 19 #[.val (.ref a1)] [(.long (((w1.toInt64) * (w2.toInt64)) + ((w1 / (2 : Int32)).toInt64)))])) t → Steps p.tables e below (s₁.setTop (entryFrame m #[(.ref a1)] 1)) t := by
    intro t k
    refine pre0 _ ?_
    show Steps p.tables e below (s₁.setTop (mkF m 0 #[.val (.ref a1)] [])) _
    refine XS.aloadN X0.here hx rfl (hb hby own_d4_0) rfl rfl ?_
    show Steps p.tables e below (s₁.setTop (mkF m 1 #[.val (.ref a1)] [(.ref a1)])) _
    refine st1 _ ?_
    show Steps p.tables e below (T1.setTop (mkF m 4 #[.val (.ref a1)] [(.int w1)])) _
    refine XS.i2l X1.here hx rfl (hb hby own_d4_4) rfl ?_
    show Steps p.tables e below (T1.setTop (mkF m 5 #[.val (.ref a1)] [(.long (w1.toInt64))])) _
    refine XS.aloadN X1.here hx rfl (hb hby own_d4_5) rfl rfl ?_
    show Steps p.tables e below (T1.setTop (mkF m 6 #[.val (.ref a1)] [(.ref a1), (.long (w1.toInt64))])) _
    refine st2 _ ?_
    show Steps p.tables e below (T2.setTop (mkF m 9 #[.val (.ref a1)] [(.int w2), (.long (w1.toInt64))])) _
    refine XS.i2l X2.here hx rfl (hb hby own_d4_9) rfl ?_
    show Steps p.tables e below (T2.setTop (mkF m 10 #[.val (.ref a1)] [(.long (w2.toInt64)), (.long (w1.toInt64))])) _
    refine XS.lmul X2.here hx rfl (hb hby own_d4_10) rfl ?_
    show Steps p.tables e below (T2.setTop (mkF m 11 #[.val (.ref a1)] [(.long ((w1.toInt64) * (w2.toInt64)))])) _
    refine XS.aloadN X2.here hx rfl (hb hby own_d4_11) rfl rfl ?_
    show Steps p.tables e below (T2.setTop (mkF m 12 #[.val (.ref a1)] [(.ref a1), (.long ((w1.toInt64) * (w2.toInt64)))])) _
    refine st3 _ ?_
    show Steps p.tables e below (T3.setTop (mkF m 15 #[.val (.ref a1)] [(.int w1), (.long ((w1.toInt64) * (w2.toInt64)))])) _
    refine XS.iconst X3.here hx rfl (hb hby own_d4_15) ?_
    show Steps p.tables e below (T3.setTop (mkF m 16 #[.val (.ref a1)] [(.int (2 : Int32)), (.int w1), (.long ((w1.toInt64) * (w2.toInt64)))])) _
    refine XS.idiv X3.here hx rfl (hb hby own_d4_16) rfl (by decide) ?_
    show Steps p.tables e below (T3.setTop (mkF m 17 #[.val (.ref a1)] [(.int (w1 / (2 : Int32))), (.long ((w1.toInt64) * (w2.toInt64)))])) _
    refine XS.i2l X3.here hx rfl (hb hby own_d4_17) rfl ?_
    show Steps p.tables e below (T3.setTop (mkF m 18 #[.val (.ref a1)] [(.long ((w1 / (2 : Int32)).toInt64)), (.long ((w1.toInt64) * (w2.toInt64)))])) _
    refine XS.ladd X3.here hx rfl (hb hby own_d4_18) rfl ?_
    exact k
  obtain ⟨fs, hr, hrun, hended, hW, hsame⟩ := X3.leave (v := some (.long (((w1.toInt64) * (w2.toInt64)) + ((w1 / (2 : Int32)).toInt64)))) (fun h => by rw [Bd.returns] at h; cases h)
  refine ⟨_, _, pre4 _ ?_, hrun, hended, _, _, rfl, ?_, ⟨_, rfl⟩, hW, hsame.mono (by decide) (by decide)⟩
  · show Steps p.tables e below (T3.setTop (mkF m 19 #[.val (.ref a1)] [(.long (((w1.toInt64) * (w2.toInt64)) + ((w1 / (2 : Int32)).toInt64)))])) _
    exact retOut X3 hx Bd.returns rfl (Or.inr (Or.inl ⟨rfl, rfl, _, rfl⟩)) (hb hby own_d4_19) hr
  · show own_Q4 Z a1 w1 w2 h0 n0 _ T3.heap _
    rw [e3]
    exact ⟨rfl, N0, rfl⟩
theorem own_d5_0 : decode jdk_29_method_61_code 0 = .ok (.lload_n 0, 1) := by decide +kernel
theorem own_d5_1 : decode jdk_29_method_61_code 1 = .ok (.lconst 0, 1) := by decide +kernel
theorem own_d5_2 : decode jdk_29_method_61_code 2 = .ok (.lcmp, 1) := by decide +kernel
theorem own_d5_3 : decode jdk_29_method_61_code 3 = .ok (.ifCond .ge 8, 3) := by decide +kernel
theorem own_d5_6 : decode jdk_29_method_61_code 6 = .ok (.lload_n 0, 1) := by decide +kernel
theorem own_d5_7 : decode jdk_29_method_61_code 7 = .ok (.lneg, 1) := by decide +kernel
theorem own_d5_8 : decode jdk_29_method_61_code 8 = .ok (.goto 4, 3) := by decide +kernel
theorem own_d5_11 : decode jdk_29_method_61_code 11 = .ok (.lload_n 0, 1) := by decide +kernel
theorem own_d5_12 : decode jdk_29_method_61_code 12 = .ok (.lreturn, 1) := by decide +kernel
theorem own_ef5 (m : MethodId) (x0 : Int64) : entryFrame m #[(.long x0)] 2 = mkF m 0 #[.val (.long x0), .second] [] := by first | (simp [entryFrame, mkF, argsToLocals, Value.category]; done) | rfl
def own_Q5 (Z : State) (q1 : Int64) (h0 : Heap) (n0 : Nat) (v : Option Value) (h : Heap) (L : List Loc) : Prop := v = some (.long (own_abs q1)) ∧ Fr n0 L ∧ h = h0
set_option maxRecDepth 65536 in
set_option maxHeartbeats 40000000 in
theorem rm5 (l : Launch) (Z : State) (a0 : Array Value) (hw : ∀ d ∈ tables_1, d.before a0 Z = true) (ws : List Jvm.Cond) (q1 : Int64) (h0 : Heap) (n0 : Nat) (Z0 : n0 ≤ h0.size)  :
    MetFree l (⟨"java/lang/Math", "abs", "(J)J"⟩ : MethodName) (head1 (Jvm.Cond.code (⟨"java/lang/Math", "abs", "(J)J"⟩ : MethodName) jdk_29_method_61_code 2 (some .long) :: ws) ({ frames := 0, cells := 0, slots := 0, locals := 0 } : Room)) (fun a U => a = #[(.long q1)] ∧ Z.Warmed39 U.vm ∧ U.heap = h0) (fun _ _ _ _ _ => True) (fun _ U o U' => ∃ v L, o = .returned v ∧ own_Q5 Z q1 h0 n0 v U'.heap L ∧ FrameEnd U o U' L ({ frames := 0, cells := 0, slots := 0, locals := 0 } : Room).cells ({ frames := 0, cells := 0, slots := 0, locals := 0 } : Room).slots) := by
  refine MetFree.of_bodySF (Jvm.Free.JP.mathPlain rfl (by decide +kernel)) hisR ?_
  intro p e s m args below meth c s₁ Bd hml0 hP hK
  obtain ⟨rfl, hZ, hh⟩ := hP
  have hx := Bd.exec
  have hby := Bd.bytes
  have hml : c.maxLocals = 2 := hml0
  have hown : s.vm.findClass "java/lang/Math" = some m.cls := findClass_of_methodNamed Bd.named
  have hnm := (name_of_methodNamed Bd.named Bd.method).1
  have X0 : Stand p l e ({ frames := 0, cells := 0, slots := 0, locals := 0 } : Room) s m #[(.long q1)] below meth c s₁ [] 0 0 := Stand.of_body Bd
  have e0 : s₁.heap = h0 := by rw [← hh, Bd.state]; rfl
  have N0 := Fr.nil n0
  have pre0 : ∀ t, Steps p.tables e below (s₁.setTop (mkF m 0 #[.val (.long q1), .second] [])) t → Steps p.tables e below (s₁.setTop (entryFrame m #[(.long q1)] 2)) t := fun t k => castTop (own_ef5 m q1) k
  have pre1 : ∀ t, Steps p.tables e below (s₁.setTop (mkF m 3 #[.val (.long q1), .second] [(.int (lcmpW q1 (0 : Int64)))])) t → Steps p.tables e below (s₁.setTop (entryFrame m #[(.long q1)] 2)) t := by
    intro t k
    refine pre0 _ ?_
    show Steps p.tables e below (s₁.setTop (mkF m 0 #[.val (.long q1), .second] [])) _
    refine XS.lloadN X0.here hx rfl (hb hby own_d5_0) rfl ?_
    show Steps p.tables e below (s₁.setTop (mkF m 1 #[.val (.long q1), .second] [(.long q1)])) _
    refine XS.lconst X0.here hx rfl (hb hby own_d5_1) ?_
    show Steps p.tables e below (s₁.setTop (mkF m 2 #[.val (.long q1), .second] [(.long (0 : Int64)), (.long q1)])) _
    refine XS.lcmp X0.here hx rfl (hb hby own_d5_2) rfl ?_
    exact k
  by_cases hc3 : q1 < (0 : Int64)
  · -- hc3 
    have pre2 : ∀ t, Steps p.tables e below (s₁.setTop (mkF m 12 #[.val (.long q1), .second] [(.long (-q1))])) t → Steps p.tables e below (s₁.setTop (entryFrame m #[(.long q1)] 2)) t := by
      intro t k
      refine pre1 _ ?_
      show Steps p.tables e below (s₁.setTop (mkF m 3 #[.val (.long q1), .second] [(.int (lcmpW q1 (0 : Int64)))])) _
      refine XS.ifNo X0.here hx rfl (hb hby own_d5_3) rfl ((if0 _ _).trans (tlt ((lw_lt q1 (0 : Int64)).mpr hc3)).2.1) ?_
      show Steps p.tables e below (s₁.setTop (mkF m 6 #[.val (.long q1), .second] [])) _
      refine XS.lloadN X0.here hx rfl (hb hby own_d5_6) rfl ?_
      show Steps p.tables e below (s₁.setTop (mkF m 7 #[.val (.long q1), .second] [(.long q1)])) _
      refine XS.lneg X0.here hx rfl (hb hby own_d5_7) rfl ?_
      show Steps p.tables e below (s₁.setTop (mkF m 8 #[.val (.long q1), .second] [(.long (-q1))])) _
      refine XS.goto X0.here hx rfl (pc0 := 8) (pc' := 12) rfl (hb hby own_d5_8) (by decide) (by decide) ?_
      exact k
    obtain ⟨fs, hr, hrun, hended, hW, hsame⟩ := X0.leave (v := some (.long (-q1))) (fun h => by rw [Bd.returns] at h; cases h)
    refine ⟨_, _, pre2 _ ?_, hrun, hended, _, _, rfl, ?_, ⟨_, rfl⟩, hW, hsame.mono (by decide) (by decide)⟩
    · show Steps p.tables e below (s₁.setTop (mkF m 12 #[.val (.long q1), .second] [(.long (-q1))])) _
      exact retOut X0 hx Bd.returns rfl (Or.inr (Or.inl ⟨rfl, rfl, _, rfl⟩)) (hb hby own_d5_12) hr
    · show own_Q5 Z q1 h0 n0 _ s₁.heap _
      rw [e0]
      exact ⟨congrArg (fun z => some (Value.long z)) (show (-q1) = (own_abs q1) from own_abs1 hc3), N0, rfl⟩
  · -- hc3 not
    have pre3 : ∀ t, Steps p.tables e below (s₁.setTop (mkF m 12 #[.val (.long q1), .second] [(.long q1)])) t → Steps p.tables e below (s₁.setTop (entryFrame m #[(.long q1)] 2)) t := by
      intro t k
      refine pre1 _ ?_
      show Steps p.tables e below (s₁.setTop (mkF m 3 #[.val (.long q1), .second] [(.int (lcmpW q1 (0 : Int64)))])) _
      refine XS.ifYes X0.here hx rfl (pc0 := 3) (pc' := 11) rfl (hb hby own_d5_3) rfl ((if0 _ _).trans (flt (fun q => hc3 ((lw_lt q1 (0 : Int64)).mp q))).2.1) (by decide) (by decide) ?_
      show Steps p.tables e below (s₁.setTop (mkF m 11 #[.val (.long q1), .second] [])) _
      refine XS.lloadN X0.here hx rfl (hb hby own_d5_11) rfl ?_
      exact k
    obtain ⟨fs, hr, hrun, hended, hW, hsame⟩ := X0.leave (v := some (.long q1)) (fun h => by rw [Bd.returns] at h; cases h)
    refine ⟨_, _, pre3 _ ?_, hrun, hended, _, _, rfl, ?_, ⟨_, rfl⟩, hW, hsame.mono (by decide) (by decide)⟩
    · show Steps p.tables e below (s₁.setTop (mkF m 12 #[.val (.long q1), .second] [(.long q1)])) _
      exact retOut X0 hx Bd.returns rfl (Or.inr (Or.inl ⟨rfl, rfl, _, rfl⟩)) (hb hby own_d5_12) hr
    · show own_Q5 Z q1 h0 n0 _ s₁.heap _
      rw [e0]
      exact ⟨congrArg (fun z => some (Value.long z)) (show q1 = (own_abs q1) from own_abs0 hc3), N0, rfl⟩
theorem own_ef0 (m : MethodId) (x0 : Int32) (x1 : Int32) (x2 : Int32) (x3 : Int32) : entryFrame m #[(.int x0), (.int x1), (.int x2), (.int x3)] maxLocals = mkF m 0 #[.val (.int x0), .val (.int x1), .val (.int x2), .val (.int x3), .unset, .unset, .unset, .unset, .unset, .unset, .unset, .unset, .unset, .unset, .unset, .unset, .unset] [] := by first | (simp [entryFrame, mkF, argsToLocals, Value.category, maxLocals]; done) | rfl
def own_Q0 (Z : State) (p1 : Int32) (p2 : Int32) (p3 : Int32) (p4 : Int32) (h0 : Heap) (n0 : Nat) (v : Option Value) (h : Heap) (L : List Loc) : Prop := v = some (.int (1 : Int32)) ∧ Fr n0 L
set_option maxRecDepth 65536 in
set_option maxHeartbeats 40000000 in
theorem rm0 (l : Launch) (Z : State) (a0 : Array Value) (hw : ∀ d ∈ tables_1, d.before a0 Z = true) (ws : List Jvm.Cond) (p1 : Int32) (p2 : Int32) (p3 : Int32) (p4 : Int32) (h0 : Heap) (n0 : Nat) (Z0 : n0 ≤ h0.size)  :
    MetFree l x (head1 (Jvm.Cond.code x code maxLocals ret :: ws) room_1) (fun a U => a = #[(.int p1), (.int p2), (.int p3), (.int p4)] ∧ Z.Warmed39 U.vm ∧ U.heap = h0) (fun _ _ _ _ _ => True) (fun _ U o U' => ∃ v L, o = .returned v ∧ own_Q0 Z p1 p2 p3 p4 h0 n0 v U'.heap L ∧ FrameEnd U o U' L room_1.cells room_1.slots) := by
  refine MetFree.of_bodySF (plainFor_of_name own_pn0) hisR ?_
  intro p e s m args below meth c s₁ Bd hml0 hP hK
  obtain ⟨rfl, hZ, hh⟩ := hP
  have hx := Bd.exec
  have hby := Bd.bytes
  have hml : c.maxLocals = 17 := hml0
  have hown : s.vm.findClass "com/example/leafcutter/leafcutter/HeartbeatsRetireAfterMsPinLaw" = some m.cls := findClass_of_methodNamed Bd.named
  have hnm := (name_of_methodNamed Bd.named Bd.method).1
  have X0 : Stand p l e room_1 s m #[(.int p1), (.int p2), (.int p3), (.int p4)] below meth c s₁ [] 0 0 := Stand.of_body Bd
  have e0 : s₁.heap = h0 := by rw [← hh, Bd.state]; rfl
  have N0 := Fr.nil n0
  have pre0 : ∀ t, Steps p.tables e below (s₁.setTop (mkF m 0 #[.val (.int p1), .val (.int p2), .val (.int p3), .val (.int p4), .unset, .unset, .unset, .unset, .unset, .unset, .unset, .unset, .unset, .unset, .unset, .unset, .unset] [])) t → Steps p.tables e below (s₁.setTop (entryFrame m #[(.int p1), (.int p2), (.int p3), (.int p4)] maxLocals)) t := fun t k => castTop (own_ef0 m p1 p2 p3 p4) k
  obtain ⟨T1, h1, X1, e1, E1, A1, D1, -, st1⟩ := newO X0 hx hZ hown (hw _ (List.mem_of_getElem? (i := 0) rfl)) (hw _ (List.mem_of_getElem? (i := 1) rfl)) (hw _ (List.mem_of_getElem? (i := 2) rfl)) e0 (g := (mkF m 0 #[.val (.int p1), .val (.int p2), .val (.int p3), .val (.int p4), .unset, .unset, .unset, .unset, .unset, .unset, .unset, .unset, .unset, .unset, .unset, .unset, .unset] [])) rfl (hb hby at_0) (by decide) (by decide)
  obtain ⟨b1, g1⟩ : ∃ z, z = h0.size := ⟨_, rfl⟩
  rw [← g1] at A1 D1 st1
  have g_b1 : n0 ≤ b1 := Nat.le_trans Z0 (Nat.le_of_eq g1.symm)
  have Z1 : n0 ≤ h1.size := Nat.le_trans Z0 E1.1
  have E_b1 : Exa Z h1 b1 "com/example/leafcutter/leafcutter/Heartbeats" := A1
  have F_rateMs_b1 : Fld Z h1 b1 "com/example/leafcutter/leafcutter/Heartbeats" "rateMs" "I" (.int (0 : Int32)) := D1 (Or.inr (hw _ (List.mem_of_getElem? (i := 15) rfl))) (ty := .int) (by decide)
  have F_threshold_b1 : Fld Z h1 b1 "com/example/leafcutter/leafcutter/Heartbeats" "threshold" "I" (.int (0 : Int32)) := D1 (Or.inr (hw _ (List.mem_of_getElem? (i := 17) rfl))) (ty := .int) (by decide)
  have F_retiredKeepMs_b1 : Fld Z h1 b1 "com/example/leafcutter/leafcutter/Heartbeats" "retiredKeepMs" "I" (.int (0 : Int32)) := D1 (Or.inr (hw _ (List.mem_of_getElem? (i := 19) rfl))) (ty := .int) (by decide)
  obtain ⟨_, _, ⟨T2, L2, k2, n2⟩, -, X2, ⟨Lc2, hQ2, l2, y2, z2⟩, st2⟩ := X1.specialBack hx (y := (⟨"com/example/leafcutter/leafcutter/Heartbeats", "<init>", "(III)V"⟩ : MethodName)) rfl hown (mvT hZ (hw _ (List.mem_of_getElem? (i := 3) rfl))) (mvT hZ (hw _ (List.mem_of_getElem? (i := 4) rfl))) (mvT hZ (hw _ (List.mem_of_getElem? (i := 5) rfl))) (by decide) (backOf (W := 1) (rm1 l Z a0 hw [] b1 p1 (0 : Int32) p3 ((.int (0 : Int32))) ((.int (0 : Int32))) ((.int (0 : Int32))) h1 n0 Z1 E_b1 F_rateMs_b1 F_threshold_b1 F_retiredKeepMs_b1 g_b1) hZ (hw _ (List.mem_of_getElem? (i := 5) rfl)) (hw _ (List.mem_of_getElem? (i := 2) rfl)) (by decide) (by decide)) (g := (mkF m 7 #[.val (.int p1), .val (.int p2), .val (.int p3), .val (.int p4), .unset, .unset, .unset, .unset, .unset, .unset, .unset, .unset, .unset, .unset, .unset, .unset, .unset] [(.int p3), (.int (0 : Int32)), (.int p1), (.ref b1), (.ref b1)])) rfl (by rw [hml]; rfl) (Steps.refl _) (a := b1) (argsL := [(.int p1), (.int (0 : Int32)), (.int p3)]) (rest := [(.ref b1)]) (lenOf own_pd1 rfl) rfl (by show 2 * 0 + _ ≤ _; exact Nat.le_of_eq rfl) (hb hby at_7) (fun _ _ => ⟨rfl, e1, (by decide : 1 + 0 ≤ _), (by decide : 3 + 0 ≤ _)⟩)
  dsimp only [Pt.U, Pt.locs, Pt.cells, Pt.slots] at X2 l2 y2 z2 st2 hQ2
  subst l2 y2 z2
  obtain ⟨rfl, N2q, Kq2, P2_0, P2_1, P2_2, P2_3⟩ := hQ2
  have N2 := Fr.app N0 N2q
  have E_b1 := P2_0
  have F_rateMs_b1 := P2_1
  have F_threshold_b1 := P2_2
  have F_retiredKeepMs_b1 := P2_3
  have Z2 : n0 ≤ T2.heap.size := Nat.le_trans Z1 Kq2.1
  obtain ⟨T3, h3, X3, e3, E3, A3, D3, -, st3⟩ := newO X2 hx hZ hown (hw _ (List.mem_of_getElem? (i := 0) rfl)) (hw _ (List.mem_of_getElem? (i := 1) rfl)) (hw _ (List.mem_of_getElem? (i := 2) rfl)) rfl (g := (mkF m 12 #[.val (.int p1), .val (.int p2), .val (.int p3), .val (.int p4), .val (.ref b1), .unset, .unset, .unset, .unset, .unset, .unset, .unset, .unset, .unset, .unset, .unset, .unset] [])) rfl (hb hby at_12) (by decide) (by decide)
  obtain ⟨b3, g3⟩ : ∃ z, z = T2.heap.size := ⟨_, rfl⟩
  rw [← g3] at A3 D3 st3
  have ne_b1_b3 : b1 ≠ b3 := Nat.ne_of_lt (Nat.lt_of_lt_of_le E_b1.lt (Nat.le_of_eq g3.symm))
  have g_b3 : n0 ≤ b3 := Nat.le_trans Z2 (Nat.le_of_eq g3.symm)
  have E_b1 := E_b1.ext E3
  have F_rateMs_b1 := F_rateMs_b1.ext E3
  have F_threshold_b1 := F_threshold_b1.ext E3
  have F_retiredKeepMs_b1 := F_retiredKeepMs_b1.ext E3
  have Z3 : n0 ≤ h3.size := Nat.le_trans Z2 E3.1
  have E_b3 : Exa Z h3 b3 "com/example/leafcutter/leafcutter/Heartbeats" := A3
  have F_rateMs_b3 : Fld Z h3 b3 "com/example/leafcutter/leafcutter/Heartbeats" "rateMs" "I" (.int (0 : Int32)) := D3 (Or.inr (hw _ (List.mem_of_getElem? (i := 15) rfl))) (ty := .int) (by decide)
  have F_threshold_b3 : Fld Z h3 b3 "com/example/leafcutter/leafcutter/Heartbeats" "threshold" "I" (.int (0 : Int32)) := D3 (Or.inr (hw _ (List.mem_of_getElem? (i := 17) rfl))) (ty := .int) (by decide)
  have F_retiredKeepMs_b3 : Fld Z h3 b3 "com/example/leafcutter/leafcutter/Heartbeats" "retiredKeepMs" "I" (.int (0 : Int32)) := D3 (Or.inr (hw _ (List.mem_of_getElem? (i := 19) rfl))) (ty := .int) (by decide)
  obtain ⟨_, _, ⟨T4, L4, k4, n4⟩, -, X4, ⟨Lc4, hQ4, l4, y4, z4⟩, st4⟩ := X3.specialBack hx (y := (⟨"com/example/leafcutter/leafcutter/Heartbeats", "<init>", "(III)V"⟩ : MethodName)) rfl hown (mvT hZ (hw _ (List.mem_of_getElem? (i := 3) rfl))) (mvT hZ (hw _ (List.mem_of_getElem? (i := 4) rfl))) (mvT hZ (hw _ (List.mem_of_getElem? (i := 5) rfl))) (by decide) (backOf (W := 1) (rm1 l Z a0 hw [] b3 p1 p2 p4 ((.int (0 : Int32))) ((.int (0 : Int32))) ((.int (0 : Int32))) h3 n0 Z3 E_b3 F_rateMs_b3 F_threshold_b3 F_retiredKeepMs_b3 g_b3) hZ (hw _ (List.mem_of_getElem? (i := 5) rfl)) (hw _ (List.mem_of_getElem? (i := 2) rfl)) (by decide) (by decide)) (g := (mkF m 19 #[.val (.int p1), .val (.int p2), .val (.int p3), .val (.int p4), .val (.ref b1), .unset, .unset, .unset, .unset, .unset, .unset, .unset, .unset, .unset, .unset, .unset, .unset] [(.int p4), (.int p2), (.int p1), (.ref b3), (.ref b3)])) rfl (by rw [hml]; rfl) (Steps.refl _) (a := b3) (argsL := [(.int p1), (.int p2), (.int p4)]) (rest := [(.ref b3)]) (lenOf own_pd1 rfl) rfl (by show 2 * 0 + _ ≤ _; exact Nat.le_of_eq rfl) (hb hby at_19) (fun _ _ => ⟨rfl, e3, (by decide : 2 + 0 ≤ _), (by decide : 6 + 0 ≤ _)⟩)
  dsimp only [Pt.U, Pt.locs, Pt.cells, Pt.slots] at X4 l4 y4 z4 st4 hQ4
  subst l4 y4 z4
  obtain ⟨rfl, N4q, Kq4, P4_0, P4_1, P4_2, P4_3⟩ := hQ4
  have N4 := Fr.app N2 N4q
  have E_b1 := E_b1.keep Kq4
  have F_rateMs_b1 := F_rateMs_b1.keep Kq4 (ninS ne_b1_b3 nin0)
  have F_threshold_b1 := F_threshold_b1.keep Kq4 (ninS ne_b1_b3 nin0)
  have F_retiredKeepMs_b1 := F_retiredKeepMs_b1.keep Kq4 (ninS ne_b1_b3 nin0)
  have E_b3 := P4_0
  have F_rateMs_b3 := P4_1
  have F_threshold_b3 := P4_2
  have F_retiredKeepMs_b3 := P4_3
  have Z4 : n0 ≤ T4.heap.size := Nat.le_trans Z3 Kq4.1
  obtain ⟨cq5, kq5, q5a, q5b, q5c⟩ := isOf hZ rfl E_b1
  obtain ⟨_, _, ⟨T5, L5, k5, n5⟩, -, X5, ⟨Lc5, hQ5, l5, y5, z5⟩, st5⟩ := X4.virtualBack hx (y := (⟨"com/example/leafcutter/leafcutter/Heartbeats", "retireAfterMs", "()J"⟩ : MethodName)) (z := (⟨"com/example/leafcutter/leafcutter/Heartbeats", "retireAfterMs", "()J"⟩ : MethodName)) hown (mvT hZ (hw _ (List.mem_of_getElem? (i := 20) rfl))) (mvT hZ (hw _ (List.mem_of_getElem? (i := 21) rfl))) (notFace_of_selects (args := #[]) (mvT hZ (hw _ (List.mem_of_getElem? (i := 23) rfl)))) (mvT hZ (hw _ (List.mem_of_getElem? (i := 23) rfl))) (mvT hZ (hw _ (List.mem_of_getElem? (i := 22) rfl))) (by decide) (backOf (W := 0) (rm4 l Z a0 hw [] b1 p1 ((0 : Int32)) T4.heap n0 Z4 F_rateMs_b1 F_threshold_b1) hZ (hw _ (List.mem_of_getElem? (i := 24) rfl)) (hw _ (List.mem_of_getElem? (i := 2) rfl)) (by decide) (by decide)) q5a q5c (g := (mkF m 26 #[.val (.int p1), .val (.int p2), .val (.int p3), .val (.int p4), .val (.ref b1), .val (.ref b3), .unset, .unset, .unset, .unset, .unset, .unset, .unset, .unset, .unset, .unset, .unset] [(.ref b1)])) rfl (by rw [hml]; rfl) (Steps.refl _) (argsL := []) (rest := []) (lenOf own_pd2 rfl) rfl (by show 2 * 0 + _ ≤ _; exact Nat.le_of_eq rfl) (hb hby at_26) (fun _ _ => ⟨rfl, rfl, (by decide : 2 + 0 ≤ _), (by decide : 6 + 0 ≤ _)⟩)
  dsimp only [Pt.U, Pt.locs, Pt.cells, Pt.slots] at X5 l5 y5 z5 st5 hQ5
  subst l5 y5 z5
  obtain ⟨rfl, N5q, e5⟩ := hQ5
  have N5 := Fr.app N4 N5q
  obtain ⟨cq6, kq6, q6a, q6b, q6c⟩ := isOf hZ e5 E_b3
  obtain ⟨_, _, ⟨T6, L6, k6, n6⟩, -, X6, ⟨Lc6, hQ6, l6, y6, z6⟩, st6⟩ := X5.virtualBack hx (y := (⟨"com/example/leafcutter/leafcutter/Heartbeats", "retireAfterMs", "()J"⟩ : MethodName)) (z := (⟨"com/example/leafcutter/leafcutter/Heartbeats", "retireAfterMs", "()J"⟩ : MethodName)) hown (mvT hZ (hw _ (List.mem_of_getElem? (i := 20) rfl))) (mvT hZ (hw _ (List.mem_of_getElem? (i := 21) rfl))) (notFace_of_selects (args := #[]) (mvT hZ (hw _ (List.mem_of_getElem? (i := 23) rfl)))) (mvT hZ (hw _ (List.mem_of_getElem? (i := 23) rfl))) (mvT hZ (hw _ (List.mem_of_getElem? (i := 22) rfl))) (by decide) (backOf (W := 0) (rm4 l Z a0 hw [] b3 p1 p2 T4.heap n0 Z4 F_rateMs_b3 F_threshold_b3) hZ (hw _ (List.mem_of_getElem? (i := 24) rfl)) (hw _ (List.mem_of_getElem? (i := 2) rfl)) (by decide) (by decide)) q6a q6c (g := (mkF m 33 #[.val (.int p1), .val (.int p2), .val (.int p3), .val (.int p4), .val (.ref b1), .val (.ref b3), .val (.long (((p1.toInt64) * ((0 : Int32).toInt64)) + ((p1 / (2 : Int32)).toInt64))), .second, .unset, .unset, .unset, .unset, .unset, .unset, .unset, .unset, .unset] [(.ref b3)])) rfl (by rw [hml]; rfl) (Steps.refl _) (argsL := []) (rest := []) (lenOf own_pd2 rfl) rfl (by show 2 * 0 + _ ≤ _; exact Nat.le_of_eq rfl) (hb hby at_33) (fun _ _ => ⟨rfl, e5, (by decide : 2 + 0 ≤ _), (by decide : 6 + 0 ≤ _)⟩)
  dsimp only [Pt.U, Pt.locs, Pt.cells, Pt.slots] at X6 l6 y6 z6 st6 hQ6
  subst l6 y6 z6
  obtain ⟨rfl, N6q, e6⟩ := hQ6
  have N6 := Fr.app N5 N6q
  obtain ⟨_, _, ⟨T7, L7, k7, n7⟩, -, X7, ⟨Lc7, hQ7, l7, y7, z7⟩, st7⟩ := Jvm.LawKit.callS X6 hx (y := (⟨"java/lang/Math", "abs", "(J)J"⟩ : MethodName)) hown (mvT hZ (hw _ (List.mem_of_getElem? (i := 26) rfl))) (mvT hZ (hw _ (List.mem_of_getElem? (i := 27) rfl))) (mvT hZ (hw _ (List.mem_of_getElem? (i := 28) rfl))) (mvT hZ (hw _ (List.mem_of_getElem? (i := 29) rfl))) (by decide) (backOf (W := 0) (rm5 l Z a0 hw [] ((p1.toInt64) - ((2 : Int64) * (((p1.toInt64) * ((0 : Int32).toInt64)) + ((p1 / (2 : Int32)).toInt64))))  T4.heap n0 Z4 ) hZ (hw _ (List.mem_of_getElem? (i := 29) rfl)) (hw _ (List.mem_of_getElem? (i := 28) rfl)) (by decide) (by decide)) (g := (mkF m 76 #[.val (.int p1), .val (.int p2), .val (.int p3), .val (.int p4), .val (.ref b1), .val (.ref b3), .val (.long (((p1.toInt64) * ((0 : Int32).toInt64)) + ((p1 / (2 : Int32)).toInt64))), .second, .val (.long (((p1.toInt64) * (p2.toInt64)) + ((p1 / (2 : Int32)).toInt64))), .second, .val (.long (p1.toInt64)), .second, .val (.int (1 : Int32)), .val (.long ((p1.toInt64) - ((2 : Int64) * (((p1.toInt64) * ((0 : Int32).toInt64)) + ((p1 / (2 : Int32)).toInt64))))), .second, .unset, .unset] [(.long ((p1.toInt64) - ((2 : Int64) * (((p1.toInt64) * ((0 : Int32).toInt64)) + ((p1 / (2 : Int32)).toInt64)))))])) rfl (by rw [hml]; rfl) (argsL := [(.long ((p1.toInt64) - ((2 : Int64) * (((p1.toInt64) * ((0 : Int32).toInt64)) + ((p1 / (2 : Int32)).toInt64)))))]) (rest := []) (lenOf own_pd3 rfl) rfl (by show 2 * 0 + _ ≤ _; exact Nat.le_of_eq rfl) (hb hby at_76) (fun _ _ => ⟨rfl, e6, (by decide : 2 + 0 ≤ _), (by decide : 6 + 0 ≤ _)⟩)
  dsimp only [Pt.U, Pt.locs, Pt.cells, Pt.slots] at X7 l7 y7 z7 st7 hQ7
  subst l7 y7 z7
  obtain ⟨rfl, N7q, e7⟩ := hQ7
  have N7 := Fr.app N6 N7q
  obtain ⟨_, _, ⟨T8, L8, k8, n8⟩, -, X8, ⟨Lc8, hQ8, l8, y8, z8⟩, st8⟩ := Jvm.LawKit.callS X7 hx (y := (⟨"java/lang/Math", "abs", "(J)J"⟩ : MethodName)) hown (mvT hZ (hw _ (List.mem_of_getElem? (i := 26) rfl))) (mvT hZ (hw _ (List.mem_of_getElem? (i := 27) rfl))) (mvT hZ (hw _ (List.mem_of_getElem? (i := 28) rfl))) (mvT hZ (hw _ (List.mem_of_getElem? (i := 29) rfl))) (by decide) (backOf (W := 0) (rm5 l Z a0 hw [] ((2 : Int64) * (((p1.toInt64) * ((0 : Int32).toInt64)) + ((p1 / (2 : Int32)).toInt64)))  T4.heap n0 Z4 ) hZ (hw _ (List.mem_of_getElem? (i := 29) rfl)) (hw _ (List.mem_of_getElem? (i := 28) rfl)) (by decide) (by decide)) (g := (mkF m 97 #[.val (.int p1), .val (.int p2), .val (.int p3), .val (.int p4), .val (.ref b1), .val (.ref b3), .val (.long (((p1.toInt64) * ((0 : Int32).toInt64)) + ((p1 / (2 : Int32)).toInt64))), .second, .val (.long (((p1.toInt64) * (p2.toInt64)) + ((p1 / (2 : Int32)).toInt64))), .second, .val (.long (p1.toInt64)), .second, .val (.int (1 : Int32)), .val (.long ((p1.toInt64) - ((2 : Int64) * (((p1.toInt64) * ((0 : Int32).toInt64)) + ((p1 / (2 : Int32)).toInt64))))), .second, .val (.int (1 : Int32)), .unset] [(.long ((2 : Int64) * (((p1.toInt64) * ((0 : Int32).toInt64)) + ((p1 / (2 : Int32)).toInt64))))])) rfl (by rw [hml]; rfl) (argsL := [(.long ((2 : Int64) * (((p1.toInt64) * ((0 : Int32).toInt64)) + ((p1 / (2 : Int32)).toInt64))))]) (rest := []) (lenOf own_pd3 rfl) rfl (by show 2 * 0 + _ ≤ _; exact Nat.le_of_eq rfl) (hb hby at_97) (fun _ _ => ⟨rfl, e7, (by decide : 2 + 0 ≤ _), (by decide : 6 + 0 ≤ _)⟩)
  dsimp only [Pt.U, Pt.locs, Pt.cells, Pt.slots] at X8 l8 y8 z8 st8 hQ8
  subst l8 y8 z8
  obtain ⟨rfl, N8q, e8⟩ := hQ8
  have N8 := Fr.app N7 N8q
  obtain ⟨_, _, ⟨T9, L9, k9, n9⟩, -, X9, ⟨Lc9, hQ9, l9, y9, z9⟩, st9⟩ := Jvm.LawKit.callS X8 hx (y := (⟨"java/lang/Math", "abs", "(J)J"⟩ : MethodName)) hown (mvT hZ (hw _ (List.mem_of_getElem? (i := 26) rfl))) (mvT hZ (hw _ (List.mem_of_getElem? (i := 27) rfl))) (mvT hZ (hw _ (List.mem_of_getElem? (i := 28) rfl))) (mvT hZ (hw _ (List.mem_of_getElem? (i := 29) rfl))) (by decide) (backOf (W := 2) (rm5 l Z a0 hw [] (p1.toInt64)  T4.heap n0 Z4 ) hZ (hw _ (List.mem_of_getElem? (i := 29) rfl)) (hw _ (List.mem_of_getElem? (i := 28) rfl)) (by decide) (by decide)) (g := (mkF m 102 #[.val (.int p1), .val (.int p2), .val (.int p3), .val (.int p4), .val (.ref b1), .val (.ref b3), .val (.long (((p1.toInt64) * ((0 : Int32).toInt64)) + ((p1 / (2 : Int32)).toInt64))), .second, .val (.long (((p1.toInt64) * (p2.toInt64)) + ((p1 / (2 : Int32)).toInt64))), .second, .val (.long (p1.toInt64)), .second, .val (.int (1 : Int32)), .val (.long ((p1.toInt64) - ((2 : Int64) * (((p1.toInt64) * ((0 : Int32).toInt64)) + ((p1 / (2 : Int32)).toInt64))))), .second, .val (.int (1 : Int32)), .unset] [(.long (p1.toInt64)), (.long (own_abs ((2 : Int64) * (((p1.toInt64) * ((0 : Int32).toInt64)) + ((p1 / (2 : Int32)).toInt64)))))])) rfl (by rw [hml]; rfl) (argsL := [(.long (p1.toInt64))]) (rest := [(.long (own_abs ((2 : Int64) * (((p1.toInt64) * ((0 : Int32).toInt64)) + ((p1 / (2 : Int32)).toInt64)))))]) (lenOf own_pd3 rfl) rfl (by show 2 * 0 + _ ≤ _; exact Nat.le_of_eq rfl) (hb hby at_102) (fun _ _ => ⟨rfl, e8, (by decide : 2 + 0 ≤ _), (by decide : 6 + 0 ≤ _)⟩)
  dsimp only [Pt.U, Pt.locs, Pt.cells, Pt.slots] at X9 l9 y9 z9 st9 hQ9
  subst l9 y9 z9
  obtain ⟨rfl, N9q, e9⟩ := hQ9
  have N9 := Fr.app N8 N9q
  have pre10 : ∀ t, Steps p.tables e below (T9.setTop (mkF m 136 #[.val (.int p1), .val (.int p2), .val (.int p3), .val (.int p4), .val (.ref b1), .val (.ref b3), .val (.long (((p1.toInt64) * ((0 : Int32).toInt64)) + ((p1 / (2 : Int32)).toInt64))), .second, .val (.long (((p1.toInt64) * (p2.toInt64)) + ((p1 / (2 : Int32)).toInt64))), .second, .val (.long (p1.toInt64)), .second, .val (.int (1 : Int32)), .val (.long ((p1.toInt64) - ((2 : Int64) * (((p1.toInt64) * ((0 : Int32).toInt64)) + ((p1 / (2 : Int32)).toInt64))))), .second, .val (.int (1 : Int32)), .val (.int (1 : Int32))] [(.int (1 : Int32))])) t → Steps p.tables e below (s₁.setTop (entryFrame m #[(.int p1), (.int p2), (.int p3), (.int p4)] maxLocals)) t := by
    intro t k
    refine pre0 _ ?_
    show Steps p.tables e below (s₁.setTop (mkF m 0 #[.val (.int p1), .val (.int p2), .val (.int p3), .val (.int p4), .unset, .unset, .unset, .unset, .unset, .unset, .unset, .unset, .unset, .unset, .unset, .unset, .unset] [])) _
    refine st1 _ ?_
    show Steps p.tables e below (T1.setTop (mkF m 3 #[.val (.int p1), .val (.int p2), .val (.int p3), .val (.int p4), .unset, .unset, .unset, .unset, .unset, .unset, .unset, .unset, .unset, .unset, .unset, .unset, .unset] [(.ref b1)])) _
    refine XS.dup X1.here hx rfl (hb hby at_3) rfl rfl ?_
    show Steps p.tables e below (T1.setTop (mkF m 4 #[.val (.int p1), .val (.int p2), .val (.int p3), .val (.int p4), .unset, .unset, .unset, .unset, .unset, .unset, .unset, .unset, .unset, .unset, .unset, .unset, .unset] [(.ref b1), (.ref b1)])) _
    refine XS.iloadN X1.here hx rfl (hb hby at_4) rfl ?_
    show Steps p.tables e below (T1.setTop (mkF m 5 #[.val (.int p1), .val (.int p2), .val (.int p3), .val (.int p4), .unset, .unset, .unset, .unset, .unset, .unset, .unset, .unset, .unset, .unset, .unset, .unset, .unset] [(.int p1), (.ref b1), (.ref b1)])) _
    refine XS.iconst X1.here hx rfl (hb hby at_5) ?_
    show Steps p.tables e below (T1.setTop (mkF m 6 #[.val (.int p1), .val (.int p2), .val (.int p3), .val (.int p4), .unset, .unset, .unset, .unset, .unset, .unset, .unset, .unset, .unset, .unset, .unset, .unset, .unset] [(.int (0 : Int32)), (.int p1), (.ref b1), (.ref b1)])) _
    refine XS.iloadN X1.here hx rfl (hb hby at_6) rfl ?_
    show Steps p.tables e below (T1.setTop (mkF m 7 #[.val (.int p1), .val (.int p2), .val (.int p3), .val (.int p4), .unset, .unset, .unset, .unset, .unset, .unset, .unset, .unset, .unset, .unset, .unset, .unset, .unset] [(.int p3), (.int (0 : Int32)), (.int p1), (.ref b1), (.ref b1)])) _
    refine st2.trans ?_
    show Steps p.tables e below (T2.setTop (mkF m 10 #[.val (.int p1), .val (.int p2), .val (.int p3), .val (.int p4), .unset, .unset, .unset, .unset, .unset, .unset, .unset, .unset, .unset, .unset, .unset, .unset, .unset] [(.ref b1)])) _
    refine XS.astore X2.here hx rfl (hb hby at_10) rfl rfl (l' := #[.val (.int p1), .val (.int p2), .val (.int p3), .val (.int p4), .val (.ref b1), .unset, .unset, .unset, .unset, .unset, .unset, .unset, .unset, .unset, .unset, .unset, .unset]) rfl ?_
    show Steps p.tables e below (T2.setTop (mkF m 12 #[.val (.int p1), .val (.int p2), .val (.int p3), .val (.int p4), .val (.ref b1), .unset, .unset, .unset, .unset, .unset, .unset, .unset, .unset, .unset, .unset, .unset, .unset] [])) _
    refine st3 _ ?_
    show Steps p.tables e below (T3.setTop (mkF m 15 #[.val (.int p1), .val (.int p2), .val (.int p3), .val (.int p4), .val (.ref b1), .unset, .unset, .unset, .unset, .unset, .unset, .unset, .unset, .unset, .unset, .unset, .unset] [(.ref b3)])) _
    refine XS.dup X3.here hx rfl (hb hby at_15) rfl rfl ?_
    show Steps p.tables e below (T3.setTop (mkF m 16 #[.val (.int p1), .val (.int p2), .val (.int p3), .val (.int p4), .val (.ref b1), .unset, .unset, .unset, .unset, .unset, .unset, .unset, .unset, .unset, .unset, .unset, .unset] [(.ref b3), (.ref b3)])) _
    refine XS.iloadN X3.here hx rfl (hb hby at_16) rfl ?_
    show Steps p.tables e below (T3.setTop (mkF m 17 #[.val (.int p1), .val (.int p2), .val (.int p3), .val (.int p4), .val (.ref b1), .unset, .unset, .unset, .unset, .unset, .unset, .unset, .unset, .unset, .unset, .unset, .unset] [(.int p1), (.ref b3), (.ref b3)])) _
    refine XS.iloadN X3.here hx rfl (hb hby at_17) rfl ?_
    show Steps p.tables e below (T3.setTop (mkF m 18 #[.val (.int p1), .val (.int p2), .val (.int p3), .val (.int p4), .val (.ref b1), .unset, .unset, .unset, .unset, .unset, .unset, .unset, .unset, .unset, .unset, .unset, .unset] [(.int p2), (.int p1), (.ref b3), (.ref b3)])) _
    refine XS.iloadN X3.here hx rfl (hb hby at_18) rfl ?_
    show Steps p.tables e below (T3.setTop (mkF m 19 #[.val (.int p1), .val (.int p2), .val (.int p3), .val (.int p4), .val (.ref b1), .unset, .unset, .unset, .unset, .unset, .unset, .unset, .unset, .unset, .unset, .unset, .unset] [(.int p4), (.int p2), (.int p1), (.ref b3), (.ref b3)])) _
    refine st4.trans ?_
    show Steps p.tables e below (T4.setTop (mkF m 22 #[.val (.int p1), .val (.int p2), .val (.int p3), .val (.int p4), .val (.ref b1), .unset, .unset, .unset, .unset, .unset, .unset, .unset, .unset, .unset, .unset, .unset, .unset] [(.ref b3)])) _
    refine XS.astore X4.here hx rfl (hb hby at_22) rfl rfl (l' := #[.val (.int p1), .val (.int p2), .val (.int p3), .val (.int p4), .val (.ref b1), .val (.ref b3), .unset, .unset, .unset, .unset, .unset, .unset, .unset, .unset, .unset, .unset, .unset]) rfl ?_
    show Steps p.tables e below (T4.setTop (mkF m 24 #[.val (.int p1), .val (.int p2), .val (.int p3), .val (.int p4), .val (.ref b1), .val (.ref b3), .unset, .unset, .unset, .unset, .unset, .unset, .unset, .unset, .unset, .unset, .unset] [])) _
    refine XS.aload X4.here hx rfl (hb hby at_24) rfl rfl ?_
    show Steps p.tables e below (T4.setTop (mkF m 26 #[.val (.int p1), .val (.int p2), .val (.int p3), .val (.int p4), .val (.ref b1), .val (.ref b3), .unset, .unset, .unset, .unset, .unset, .unset, .unset, .unset, .unset, .unset, .unset] [(.ref b1)])) _
    refine st5.trans ?_
    show Steps p.tables e below (T5.setTop (mkF m 29 #[.val (.int p1), .val (.int p2), .val (.int p3), .val (.int p4), .val (.ref b1), .val (.ref b3), .unset, .unset, .unset, .unset, .unset, .unset, .unset, .unset, .unset, .unset, .unset] [(.long (((p1.toInt64) * ((0 : Int32).toInt64)) + ((p1 / (2 : Int32)).toInt64)))])) _
    refine XS.lstore X5.here hx rfl (hb hby at_29) rfl (l' := #[.val (.int p1), .val (.int p2), .val (.int p3), .val (.int p4), .val (.ref b1), .val (.ref b3), .val (.long (((p1.toInt64) * ((0 : Int32).toInt64)) + ((p1 / (2 : Int32)).toInt64))), .second, .unset, .unset, .unset, .unset, .unset, .unset, .unset, .unset, .unset]) rfl ?_
    show Steps p.tables e below (T5.setTop (mkF m 31 #[.val (.int p1), .val (.int p2), .val (.int p3), .val (.int p4), .val (.ref b1), .val (.ref b3), .val (.long (((p1.toInt64) * ((0 : Int32).toInt64)) + ((p1 / (2 : Int32)).toInt64))), .second, .unset, .unset, .unset, .unset, .unset, .unset, .unset, .unset, .unset] [])) _
    refine XS.aload X5.here hx rfl (hb hby at_31) rfl rfl ?_
    show Steps p.tables e below (T5.setTop (mkF m 33 #[.val (.int p1), .val (.int p2), .val (.int p3), .val (.int p4), .val (.ref b1), .val (.ref b3), .val (.long (((p1.toInt64) * ((0 : Int32).toInt64)) + ((p1 / (2 : Int32)).toInt64))), .second, .unset, .unset, .unset, .unset, .unset, .unset, .unset, .unset, .unset] [(.ref b3)])) _
    refine st6.trans ?_
    show Steps p.tables e below (T6.setTop (mkF m 36 #[.val (.int p1), .val (.int p2), .val (.int p3), .val (.int p4), .val (.ref b1), .val (.ref b3), .val (.long (((p1.toInt64) * ((0 : Int32).toInt64)) + ((p1 / (2 : Int32)).toInt64))), .second, .unset, .unset, .unset, .unset, .unset, .unset, .unset, .unset, .unset] [(.long (((p1.toInt64) * (p2.toInt64)) + ((p1 / (2 : Int32)).toInt64)))])) _
    refine XS.lstore X6.here hx rfl (hb hby at_36) rfl (l' := #[.val (.int p1), .val (.int p2), .val (.int p3), .val (.int p4), .val (.ref b1), .val (.ref b3), .val (.long (((p1.toInt64) * ((0 : Int32).toInt64)) + ((p1 / (2 : Int32)).toInt64))), .second, .val (.long (((p1.toInt64) * (p2.toInt64)) + ((p1 / (2 : Int32)).toInt64))), .second, .unset, .unset, .unset, .unset, .unset, .unset, .unset]) rfl ?_
    show Steps p.tables e below (T6.setTop (mkF m 38 #[.val (.int p1), .val (.int p2), .val (.int p3), .val (.int p4), .val (.ref b1), .val (.ref b3), .val (.long (((p1.toInt64) * ((0 : Int32).toInt64)) + ((p1 / (2 : Int32)).toInt64))), .second, .val (.long (((p1.toInt64) * (p2.toInt64)) + ((p1 / (2 : Int32)).toInt64))), .second, .unset, .unset, .unset, .unset, .unset, .unset, .unset] [])) _
    refine XS.iloadN X6.here hx rfl (hb hby at_38) rfl ?_
    show Steps p.tables e below (T6.setTop (mkF m 39 #[.val (.int p1), .val (.int p2), .val (.int p3), .val (.int p4), .val (.ref b1), .val (.ref b3), .val (.long (((p1.toInt64) * ((0 : Int32).toInt64)) + ((p1 / (2 : Int32)).toInt64))), .second, .val (.long (((p1.toInt64) * (p2.toInt64)) + ((p1 / (2 : Int32)).toInt64))), .second, .unset, .unset, .unset, .unset, .unset, .unset, .unset] [(.int p1)])) _
    refine XS.i2l X6.here hx rfl (hb hby at_39) rfl ?_
    show Steps p.tables e below (T6.setTop (mkF m 40 #[.val (.int p1), .val (.int p2), .val (.int p3), .val (.int p4), .val (.ref b1), .val (.ref b3), .val (.long (((p1.toInt64) * ((0 : Int32).toInt64)) + ((p1 / (2 : Int32)).toInt64))), .second, .val (.long (((p1.toInt64) * (p2.toInt64)) + ((p1 / (2 : Int32)).toInt64))), .second, .unset, .unset, .unset, .unset, .unset, .unset, .unset] [(.long (p1.toInt64))])) _
    refine XS.lstore X6.here hx rfl (hb hby at_40) rfl (l' := #[.val (.int p1), .val (.int p2), .val (.int p3), .val (.int p4), .val (.ref b1), .val (.ref b3), .val (.long (((p1.toInt64) * ((0 : Int32).toInt64)) + ((p1 / (2 : Int32)).toInt64))), .second, .val (.long (((p1.toInt64) * (p2.toInt64)) + ((p1 / (2 : Int32)).toInt64))), .second, .val (.long (p1.toInt64)), .second, .unset, .unset, .unset, .unset, .unset]) rfl ?_
    show Steps p.tables e below (T6.setTop (mkF m 42 #[.val (.int p1), .val (.int p2), .val (.int p3), .val (.int p4), .val (.ref b1), .val (.ref b3), .val (.long (((p1.toInt64) * ((0 : Int32).toInt64)) + ((p1 / (2 : Int32)).toInt64))), .second, .val (.long (((p1.toInt64) * (p2.toInt64)) + ((p1 / (2 : Int32)).toInt64))), .second, .val (.long (p1.toInt64)), .second, .unset, .unset, .unset, .unset, .unset] [])) _
    refine XS.lload X6.here hx rfl (hb hby at_42) rfl ?_
    show Steps p.tables e below (T6.setTop (mkF m 44 #[.val (.int p1), .val (.int p2), .val (.int p3), .val (.int p4), .val (.ref b1), .val (.ref b3), .val (.long (((p1.toInt64) * ((0 : Int32).toInt64)) + ((p1 / (2 : Int32)).toInt64))), .second, .val (.long (((p1.toInt64) * (p2.toInt64)) + ((p1 / (2 : Int32)).toInt64))), .second, .val (.long (p1.toInt64)), .second, .unset, .unset, .unset, .unset, .unset] [(.long (((p1.toInt64) * (p2.toInt64)) + ((p1 / (2 : Int32)).toInt64)))])) _
    refine XS.lload X6.here hx rfl (hb hby at_44) rfl ?_
    show Steps p.tables e below (T6.setTop (mkF m 46 #[.val (.int p1), .val (.int p2), .val (.int p3), .val (.int p4), .val (.ref b1), .val (.ref b3), .val (.long (((p1.toInt64) * ((0 : Int32).toInt64)) + ((p1 / (2 : Int32)).toInt64))), .second, .val (.long (((p1.toInt64) * (p2.toInt64)) + ((p1 / (2 : Int32)).toInt64))), .second, .val (.long (p1.toInt64)), .second, .unset, .unset, .unset, .unset, .unset] [(.long (((p1.toInt64) * ((0 : Int32).toInt64)) + ((p1 / (2 : Int32)).toInt64))), (.long (((p1.toInt64) * (p2.toInt64)) + ((p1 / (2 : Int32)).toInt64)))])) _
    refine XS.lsub X6.here hx rfl (hb hby at_46) rfl ?_
    show Steps p.tables e below (T6.setTop (mkF m 47 #[.val (.int p1), .val (.int p2), .val (.int p3), .val (.int p4), .val (.ref b1), .val (.ref b3), .val (.long (((p1.toInt64) * ((0 : Int32).toInt64)) + ((p1 / (2 : Int32)).toInt64))), .second, .val (.long (((p1.toInt64) * (p2.toInt64)) + ((p1 / (2 : Int32)).toInt64))), .second, .val (.long (p1.toInt64)), .second, .unset, .unset, .unset, .unset, .unset] [(.long ((((p1.toInt64) * (p2.toInt64)) + ((p1 / (2 : Int32)).toInt64)) - (((p1.toInt64) * ((0 : Int32).toInt64)) + ((p1 / (2 : Int32)).toInt64))))])) _
    refine XS.lload X6.here hx rfl (hb hby at_47) rfl ?_
    show Steps p.tables e below (T6.setTop (mkF m 49 #[.val (.int p1), .val (.int p2), .val (.int p3), .val (.int p4), .val (.ref b1), .val (.ref b3), .val (.long (((p1.toInt64) * ((0 : Int32).toInt64)) + ((p1 / (2 : Int32)).toInt64))), .second, .val (.long (((p1.toInt64) * (p2.toInt64)) + ((p1 / (2 : Int32)).toInt64))), .second, .val (.long (p1.toInt64)), .second, .unset, .unset, .unset, .unset, .unset] [(.long (p1.toInt64)), (.long ((((p1.toInt64) * (p2.toInt64)) + ((p1 / (2 : Int32)).toInt64)) - (((p1.toInt64) * ((0 : Int32).toInt64)) + ((p1 / (2 : Int32)).toInt64))))])) _
    refine XS.iloadN X6.here hx rfl (hb hby at_49) rfl ?_
    show Steps p.tables e below (T6.setTop (mkF m 50 #[.val (.int p1), .val (.int p2), .val (.int p3), .val (.int p4), .val (.ref b1), .val (.ref b3), .val (.long (((p1.toInt64) * ((0 : Int32).toInt64)) + ((p1 / (2 : Int32)).toInt64))), .second, .val (.long (((p1.toInt64) * (p2.toInt64)) + ((p1 / (2 : Int32)).toInt64))), .second, .val (.long (p1.toInt64)), .second, .unset, .unset, .unset, .unset, .unset] [(.int p2), (.long (p1.toInt64)), (.long ((((p1.toInt64) * (p2.toInt64)) + ((p1 / (2 : Int32)).toInt64)) - (((p1.toInt64) * ((0 : Int32).toInt64)) + ((p1 / (2 : Int32)).toInt64))))])) _
    refine XS.i2l X6.here hx rfl (hb hby at_50) rfl ?_
    show Steps p.tables e below (T6.setTop (mkF m 51 #[.val (.int p1), .val (.int p2), .val (.int p3), .val (.int p4), .val (.ref b1), .val (.ref b3), .val (.long (((p1.toInt64) * ((0 : Int32).toInt64)) + ((p1 / (2 : Int32)).toInt64))), .second, .val (.long (((p1.toInt64) * (p2.toInt64)) + ((p1 / (2 : Int32)).toInt64))), .second, .val (.long (p1.toInt64)), .second, .unset, .unset, .unset, .unset, .unset] [(.long (p2.toInt64)), (.long (p1.toInt64)), (.long ((((p1.toInt64) * (p2.toInt64)) + ((p1 / (2 : Int32)).toInt64)) - (((p1.toInt64) * ((0 : Int32).toInt64)) + ((p1 / (2 : Int32)).toInt64))))])) _
    refine XS.lmul X6.here hx rfl (hb hby at_51) rfl ?_
    show Steps p.tables e below (T6.setTop (mkF m 52 #[.val (.int p1), .val (.int p2), .val (.int p3), .val (.int p4), .val (.ref b1), .val (.ref b3), .val (.long (((p1.toInt64) * ((0 : Int32).toInt64)) + ((p1 / (2 : Int32)).toInt64))), .second, .val (.long (((p1.toInt64) * (p2.toInt64)) + ((p1 / (2 : Int32)).toInt64))), .second, .val (.long (p1.toInt64)), .second, .unset, .unset, .unset, .unset, .unset] [(.long ((p1.toInt64) * (p2.toInt64))), (.long ((((p1.toInt64) * (p2.toInt64)) + ((p1 / (2 : Int32)).toInt64)) - (((p1.toInt64) * ((0 : Int32).toInt64)) + ((p1 / (2 : Int32)).toInt64))))])) _
    refine XS.lcmp X6.here hx rfl (hb hby at_52) rfl ?_
    show Steps p.tables e below (T6.setTop (mkF m 53 #[.val (.int p1), .val (.int p2), .val (.int p3), .val (.int p4), .val (.ref b1), .val (.ref b3), .val (.long (((p1.toInt64) * ((0 : Int32).toInt64)) + ((p1 / (2 : Int32)).toInt64))), .second, .val (.long (((p1.toInt64) * (p2.toInt64)) + ((p1 / (2 : Int32)).toInt64))), .second, .val (.long (p1.toInt64)), .second, .unset, .unset, .unset, .unset, .unset] [(.int (lcmpW ((((p1.toInt64) * (p2.toInt64)) + ((p1 / (2 : Int32)).toInt64)) - (((p1.toInt64) * ((0 : Int32).toInt64)) + ((p1 / (2 : Int32)).toInt64))) ((p1.toInt64) * (p2.toInt64))))])) _
    refine XS.ifNo X6.here hx rfl (hb hby at_53) rfl ((if0 _ _).trans (teq ((lw_eq ((((p1.toInt64) * (p2.toInt64)) + ((p1 / (2 : Int32)).toInt64)) - (((p1.toInt64) * ((0 : Int32).toInt64)) + ((p1 / (2 : Int32)).toInt64))) ((p1.toInt64) * (p2.toInt64))).mpr (by rw [own_q]; exact own_f1 _ _ 0 : ((((p1.toInt64) * (p2.toInt64)) + ((p1 / (2 : Int32)).toInt64)) - (((p1.toInt64) * ((0 : Int32).toInt64)) + ((p1 / (2 : Int32)).toInt64))) = ((p1.toInt64) * (p2.toInt64))))).2) ?_
    show Steps p.tables e below (T6.setTop (mkF m 56 #[.val (.int p1), .val (.int p2), .val (.int p3), .val (.int p4), .val (.ref b1), .val (.ref b3), .val (.long (((p1.toInt64) * ((0 : Int32).toInt64)) + ((p1 / (2 : Int32)).toInt64))), .second, .val (.long (((p1.toInt64) * (p2.toInt64)) + ((p1 / (2 : Int32)).toInt64))), .second, .val (.long (p1.toInt64)), .second, .unset, .unset, .unset, .unset, .unset] [])) _
    refine XS.iconst X6.here hx rfl (hb hby at_56) ?_
    show Steps p.tables e below (T6.setTop (mkF m 57 #[.val (.int p1), .val (.int p2), .val (.int p3), .val (.int p4), .val (.ref b1), .val (.ref b3), .val (.long (((p1.toInt64) * ((0 : Int32).toInt64)) + ((p1 / (2 : Int32)).toInt64))), .second, .val (.long (((p1.toInt64) * (p2.toInt64)) + ((p1 / (2 : Int32)).toInt64))), .second, .val (.long (p1.toInt64)), .second, .unset, .unset, .unset, .unset, .unset] [(.int (1 : Int32))])) _
    refine XS.goto X6.here hx rfl (pc0 := 57) (pc' := 61) rfl (hb hby at_57) (by decide) (by decide) ?_
    show Steps p.tables e below (T6.setTop (mkF m 61 #[.val (.int p1), .val (.int p2), .val (.int p3), .val (.int p4), .val (.ref b1), .val (.ref b3), .val (.long (((p1.toInt64) * ((0 : Int32).toInt64)) + ((p1 / (2 : Int32)).toInt64))), .second, .val (.long (((p1.toInt64) * (p2.toInt64)) + ((p1 / (2 : Int32)).toInt64))), .second, .val (.long (p1.toInt64)), .second, .unset, .unset, .unset, .unset, .unset] [(.int (1 : Int32))])) _
    refine XS.istore X6.here hx rfl (hb hby at_61) rfl (l' := #[.val (.int p1), .val (.int p2), .val (.int p3), .val (.int p4), .val (.ref b1), .val (.ref b3), .val (.long (((p1.toInt64) * ((0 : Int32).toInt64)) + ((p1 / (2 : Int32)).toInt64))), .second, .val (.long (((p1.toInt64) * (p2.toInt64)) + ((p1 / (2 : Int32)).toInt64))), .second, .val (.long (p1.toInt64)), .second, .val (.int (1 : Int32)), .unset, .unset, .unset, .unset]) rfl ?_
    show Steps p.tables e below (T6.setTop (mkF m 63 #[.val (.int p1), .val (.int p2), .val (.int p3), .val (.int p4), .val (.ref b1), .val (.ref b3), .val (.long (((p1.toInt64) * ((0 : Int32).toInt64)) + ((p1 / (2 : Int32)).toInt64))), .second, .val (.long (((p1.toInt64) * (p2.toInt64)) + ((p1 / (2 : Int32)).toInt64))), .second, .val (.long (p1.toInt64)), .second, .val (.int (1 : Int32)), .unset, .unset, .unset, .unset] [])) _
    refine XS.lload X6.here hx rfl (hb hby at_63) rfl ?_
    show Steps p.tables e below (T6.setTop (mkF m 65 #[.val (.int p1), .val (.int p2), .val (.int p3), .val (.int p4), .val (.ref b1), .val (.ref b3), .val (.long (((p1.toInt64) * ((0 : Int32).toInt64)) + ((p1 / (2 : Int32)).toInt64))), .second, .val (.long (((p1.toInt64) * (p2.toInt64)) + ((p1 / (2 : Int32)).toInt64))), .second, .val (.long (p1.toInt64)), .second, .val (.int (1 : Int32)), .unset, .unset, .unset, .unset] [(.long (p1.toInt64))])) _
    refine X6.ldc2J hx hown (mvT hZ (hw _ (List.mem_of_getElem? (i := 25) rfl))) rfl (hb hby at_65) ?_
    show Steps p.tables e below (T6.setTop (mkF m 68 #[.val (.int p1), .val (.int p2), .val (.int p3), .val (.int p4), .val (.ref b1), .val (.ref b3), .val (.long (((p1.toInt64) * ((0 : Int32).toInt64)) + ((p1 / (2 : Int32)).toInt64))), .second, .val (.long (((p1.toInt64) * (p2.toInt64)) + ((p1 / (2 : Int32)).toInt64))), .second, .val (.long (p1.toInt64)), .second, .val (.int (1 : Int32)), .unset, .unset, .unset, .unset] [(.long (2 : Int64)), (.long (p1.toInt64))])) _
    refine XS.lload X6.here hx rfl (hb hby at_68) rfl ?_
    show Steps p.tables e below (T6.setTop (mkF m 70 #[.val (.int p1), .val (.int p2), .val (.int p3), .val (.int p4), .val (.ref b1), .val (.ref b3), .val (.long (((p1.toInt64) * ((0 : Int32).toInt64)) + ((p1 / (2 : Int32)).toInt64))), .second, .val (.long (((p1.toInt64) * (p2.toInt64)) + ((p1 / (2 : Int32)).toInt64))), .second, .val (.long (p1.toInt64)), .second, .val (.int (1 : Int32)), .unset, .unset, .unset, .unset] [(.long (((p1.toInt64) * ((0 : Int32).toInt64)) + ((p1 / (2 : Int32)).toInt64))), (.long (2 : Int64)), (.long (p1.toInt64))])) _
    refine XS.lmul X6.here hx rfl (hb hby at_70) rfl ?_
    show Steps p.tables e below (T6.setTop (mkF m 71 #[.val (.int p1), .val (.int p2), .val (.int p3), .val (.int p4), .val (.ref b1), .val (.ref b3), .val (.long (((p1.toInt64) * ((0 : Int32).toInt64)) + ((p1 / (2 : Int32)).toInt64))), .second, .val (.long (((p1.toInt64) * (p2.toInt64)) + ((p1 / (2 : Int32)).toInt64))), .second, .val (.long (p1.toInt64)), .second, .val (.int (1 : Int32)), .unset, .unset, .unset, .unset] [(.long ((2 : Int64) * (((p1.toInt64) * ((0 : Int32).toInt64)) + ((p1 / (2 : Int32)).toInt64)))), (.long (p1.toInt64))])) _
    refine XS.lsub X6.here hx rfl (hb hby at_71) rfl ?_
    show Steps p.tables e below (T6.setTop (mkF m 72 #[.val (.int p1), .val (.int p2), .val (.int p3), .val (.int p4), .val (.ref b1), .val (.ref b3), .val (.long (((p1.toInt64) * ((0 : Int32).toInt64)) + ((p1 / (2 : Int32)).toInt64))), .second, .val (.long (((p1.toInt64) * (p2.toInt64)) + ((p1 / (2 : Int32)).toInt64))), .second, .val (.long (p1.toInt64)), .second, .val (.int (1 : Int32)), .unset, .unset, .unset, .unset] [(.long ((p1.toInt64) - ((2 : Int64) * (((p1.toInt64) * ((0 : Int32).toInt64)) + ((p1 / (2 : Int32)).toInt64)))))])) _
    refine XS.lstore X6.here hx rfl (hb hby at_72) rfl (l' := #[.val (.int p1), .val (.int p2), .val (.int p3), .val (.int p4), .val (.ref b1), .val (.ref b3), .val (.long (((p1.toInt64) * ((0 : Int32).toInt64)) + ((p1 / (2 : Int32)).toInt64))), .second, .val (.long (((p1.toInt64) * (p2.toInt64)) + ((p1 / (2 : Int32)).toInt64))), .second, .val (.long (p1.toInt64)), .second, .val (.int (1 : Int32)), .val (.long ((p1.toInt64) - ((2 : Int64) * (((p1.toInt64) * ((0 : Int32).toInt64)) + ((p1 / (2 : Int32)).toInt64))))), .second, .unset, .unset]) rfl ?_
    show Steps p.tables e below (T6.setTop (mkF m 74 #[.val (.int p1), .val (.int p2), .val (.int p3), .val (.int p4), .val (.ref b1), .val (.ref b3), .val (.long (((p1.toInt64) * ((0 : Int32).toInt64)) + ((p1 / (2 : Int32)).toInt64))), .second, .val (.long (((p1.toInt64) * (p2.toInt64)) + ((p1 / (2 : Int32)).toInt64))), .second, .val (.long (p1.toInt64)), .second, .val (.int (1 : Int32)), .val (.long ((p1.toInt64) - ((2 : Int64) * (((p1.toInt64) * ((0 : Int32).toInt64)) + ((p1 / (2 : Int32)).toInt64))))), .second, .unset, .unset] [])) _
    refine XS.lload X6.here hx rfl (hb hby at_74) rfl ?_
    show Steps p.tables e below (T6.setTop (mkF m 76 #[.val (.int p1), .val (.int p2), .val (.int p3), .val (.int p4), .val (.ref b1), .val (.ref b3), .val (.long (((p1.toInt64) * ((0 : Int32).toInt64)) + ((p1 / (2 : Int32)).toInt64))), .second, .val (.long (((p1.toInt64) * (p2.toInt64)) + ((p1 / (2 : Int32)).toInt64))), .second, .val (.long (p1.toInt64)), .second, .val (.int (1 : Int32)), .val (.long ((p1.toInt64) - ((2 : Int64) * (((p1.toInt64) * ((0 : Int32).toInt64)) + ((p1 / (2 : Int32)).toInt64))))), .second, .unset, .unset] [(.long ((p1.toInt64) - ((2 : Int64) * (((p1.toInt64) * ((0 : Int32).toInt64)) + ((p1 / (2 : Int32)).toInt64)))))])) _
    refine st7 _ ?_
    show Steps p.tables e below (T7.setTop (mkF m 79 #[.val (.int p1), .val (.int p2), .val (.int p3), .val (.int p4), .val (.ref b1), .val (.ref b3), .val (.long (((p1.toInt64) * ((0 : Int32).toInt64)) + ((p1 / (2 : Int32)).toInt64))), .second, .val (.long (((p1.toInt64) * (p2.toInt64)) + ((p1 / (2 : Int32)).toInt64))), .second, .val (.long (p1.toInt64)), .second, .val (.int (1 : Int32)), .val (.long ((p1.toInt64) - ((2 : Int64) * (((p1.toInt64) * ((0 : Int32).toInt64)) + ((p1 / (2 : Int32)).toInt64))))), .second, .unset, .unset] [(.long (own_abs ((p1.toInt64) - ((2 : Int64) * (((p1.toInt64) * ((0 : Int32).toInt64)) + ((p1 / (2 : Int32)).toInt64))))))])) _
    refine XS.lconst X7.here hx rfl (hb hby at_79) ?_
    show Steps p.tables e below (T7.setTop (mkF m 80 #[.val (.int p1), .val (.int p2), .val (.int p3), .val (.int p4), .val (.ref b1), .val (.ref b3), .val (.long (((p1.toInt64) * ((0 : Int32).toInt64)) + ((p1 / (2 : Int32)).toInt64))), .second, .val (.long (((p1.toInt64) * (p2.toInt64)) + ((p1 / (2 : Int32)).toInt64))), .second, .val (.long (p1.toInt64)), .second, .val (.int (1 : Int32)), .val (.long ((p1.toInt64) - ((2 : Int64) * (((p1.toInt64) * ((0 : Int32).toInt64)) + ((p1 / (2 : Int32)).toInt64))))), .second, .unset, .unset] [(.long (1 : Int64)), (.long (own_abs ((p1.toInt64) - ((2 : Int64) * (((p1.toInt64) * ((0 : Int32).toInt64)) + ((p1 / (2 : Int32)).toInt64))))))])) _
    refine XS.lcmp X7.here hx rfl (hb hby at_80) rfl ?_
    show Steps p.tables e below (T7.setTop (mkF m 81 #[.val (.int p1), .val (.int p2), .val (.int p3), .val (.int p4), .val (.ref b1), .val (.ref b3), .val (.long (((p1.toInt64) * ((0 : Int32).toInt64)) + ((p1 / (2 : Int32)).toInt64))), .second, .val (.long (((p1.toInt64) * (p2.toInt64)) + ((p1 / (2 : Int32)).toInt64))), .second, .val (.long (p1.toInt64)), .second, .val (.int (1 : Int32)), .val (.long ((p1.toInt64) - ((2 : Int64) * (((p1.toInt64) * ((0 : Int32).toInt64)) + ((p1 / (2 : Int32)).toInt64))))), .second, .unset, .unset] [(.int (lcmpW (own_abs ((p1.toInt64) - ((2 : Int64) * (((p1.toInt64) * ((0 : Int32).toInt64)) + ((p1 / (2 : Int32)).toInt64))))) (1 : Int64)))])) _
    refine XS.ifNo X7.here hx rfl (hb hby at_81) rfl ((if0 _ _).trans (flt (fun q => (by rw [own_q]; exact own_f2 p1 : ¬ ((1 : Int64) < (own_abs ((p1.toInt64) - ((2 : Int64) * (((p1.toInt64) * ((0 : Int32).toInt64)) + ((p1 / (2 : Int32)).toInt64))))))) ((lw_gt (own_abs ((p1.toInt64) - ((2 : Int64) * (((p1.toInt64) * ((0 : Int32).toInt64)) + ((p1 / (2 : Int32)).toInt64))))) (1 : Int64)).mp q))).2.2.1) ?_
    show Steps p.tables e below (T7.setTop (mkF m 84 #[.val (.int p1), .val (.int p2), .val (.int p3), .val (.int p4), .val (.ref b1), .val (.ref b3), .val (.long (((p1.toInt64) * ((0 : Int32).toInt64)) + ((p1 / (2 : Int32)).toInt64))), .second, .val (.long (((p1.toInt64) * (p2.toInt64)) + ((p1 / (2 : Int32)).toInt64))), .second, .val (.long (p1.toInt64)), .second, .val (.int (1 : Int32)), .val (.long ((p1.toInt64) - ((2 : Int64) * (((p1.toInt64) * ((0 : Int32).toInt64)) + ((p1 / (2 : Int32)).toInt64))))), .second, .unset, .unset] [])) _
    refine XS.iconst X7.here hx rfl (hb hby at_84) ?_
    show Steps p.tables e below (T7.setTop (mkF m 85 #[.val (.int p1), .val (.int p2), .val (.int p3), .val (.int p4), .val (.ref b1), .val (.ref b3), .val (.long (((p1.toInt64) * ((0 : Int32).toInt64)) + ((p1 / (2 : Int32)).toInt64))), .second, .val (.long (((p1.toInt64) * (p2.toInt64)) + ((p1 / (2 : Int32)).toInt64))), .second, .val (.long (p1.toInt64)), .second, .val (.int (1 : Int32)), .val (.long ((p1.toInt64) - ((2 : Int64) * (((p1.toInt64) * ((0 : Int32).toInt64)) + ((p1 / (2 : Int32)).toInt64))))), .second, .unset, .unset] [(.int (1 : Int32))])) _
    refine XS.goto X7.here hx rfl (pc0 := 85) (pc' := 89) rfl (hb hby at_85) (by decide) (by decide) ?_
    show Steps p.tables e below (T7.setTop (mkF m 89 #[.val (.int p1), .val (.int p2), .val (.int p3), .val (.int p4), .val (.ref b1), .val (.ref b3), .val (.long (((p1.toInt64) * ((0 : Int32).toInt64)) + ((p1 / (2 : Int32)).toInt64))), .second, .val (.long (((p1.toInt64) * (p2.toInt64)) + ((p1 / (2 : Int32)).toInt64))), .second, .val (.long (p1.toInt64)), .second, .val (.int (1 : Int32)), .val (.long ((p1.toInt64) - ((2 : Int64) * (((p1.toInt64) * ((0 : Int32).toInt64)) + ((p1 / (2 : Int32)).toInt64))))), .second, .unset, .unset] [(.int (1 : Int32))])) _
    refine XS.istore X7.here hx rfl (hb hby at_89) rfl (l' := #[.val (.int p1), .val (.int p2), .val (.int p3), .val (.int p4), .val (.ref b1), .val (.ref b3), .val (.long (((p1.toInt64) * ((0 : Int32).toInt64)) + ((p1 / (2 : Int32)).toInt64))), .second, .val (.long (((p1.toInt64) * (p2.toInt64)) + ((p1 / (2 : Int32)).toInt64))), .second, .val (.long (p1.toInt64)), .second, .val (.int (1 : Int32)), .val (.long ((p1.toInt64) - ((2 : Int64) * (((p1.toInt64) * ((0 : Int32).toInt64)) + ((p1 / (2 : Int32)).toInt64))))), .second, .val (.int (1 : Int32)), .unset]) rfl ?_
    show Steps p.tables e below (T7.setTop (mkF m 91 #[.val (.int p1), .val (.int p2), .val (.int p3), .val (.int p4), .val (.ref b1), .val (.ref b3), .val (.long (((p1.toInt64) * ((0 : Int32).toInt64)) + ((p1 / (2 : Int32)).toInt64))), .second, .val (.long (((p1.toInt64) * (p2.toInt64)) + ((p1 / (2 : Int32)).toInt64))), .second, .val (.long (p1.toInt64)), .second, .val (.int (1 : Int32)), .val (.long ((p1.toInt64) - ((2 : Int64) * (((p1.toInt64) * ((0 : Int32).toInt64)) + ((p1 / (2 : Int32)).toInt64))))), .second, .val (.int (1 : Int32)), .unset] [])) _
    refine X7.ldc2J hx hown (mvT hZ (hw _ (List.mem_of_getElem? (i := 25) rfl))) rfl (hb hby at_91) ?_
    show Steps p.tables e below (T7.setTop (mkF m 94 #[.val (.int p1), .val (.int p2), .val (.int p3), .val (.int p4), .val (.ref b1), .val (.ref b3), .val (.long (((p1.toInt64) * ((0 : Int32).toInt64)) + ((p1 / (2 : Int32)).toInt64))), .second, .val (.long (((p1.toInt64) * (p2.toInt64)) + ((p1 / (2 : Int32)).toInt64))), .second, .val (.long (p1.toInt64)), .second, .val (.int (1 : Int32)), .val (.long ((p1.toInt64) - ((2 : Int64) * (((p1.toInt64) * ((0 : Int32).toInt64)) + ((p1 / (2 : Int32)).toInt64))))), .second, .val (.int (1 : Int32)), .unset] [(.long (2 : Int64))])) _
    refine XS.lload X7.here hx rfl (hb hby at_94) rfl ?_
    show Steps p.tables e below (T7.setTop (mkF m 96 #[.val (.int p1), .val (.int p2), .val (.int p3), .val (.int p4), .val (.ref b1), .val (.ref b3), .val (.long (((p1.toInt64) * ((0 : Int32).toInt64)) + ((p1 / (2 : Int32)).toInt64))), .second, .val (.long (((p1.toInt64) * (p2.toInt64)) + ((p1 / (2 : Int32)).toInt64))), .second, .val (.long (p1.toInt64)), .second, .val (.int (1 : Int32)), .val (.long ((p1.toInt64) - ((2 : Int64) * (((p1.toInt64) * ((0 : Int32).toInt64)) + ((p1 / (2 : Int32)).toInt64))))), .second, .val (.int (1 : Int32)), .unset] [(.long (((p1.toInt64) * ((0 : Int32).toInt64)) + ((p1 / (2 : Int32)).toInt64))), (.long (2 : Int64))])) _
    refine XS.lmul X7.here hx rfl (hb hby at_96) rfl ?_
    show Steps p.tables e below (T7.setTop (mkF m 97 #[.val (.int p1), .val (.int p2), .val (.int p3), .val (.int p4), .val (.ref b1), .val (.ref b3), .val (.long (((p1.toInt64) * ((0 : Int32).toInt64)) + ((p1 / (2 : Int32)).toInt64))), .second, .val (.long (((p1.toInt64) * (p2.toInt64)) + ((p1 / (2 : Int32)).toInt64))), .second, .val (.long (p1.toInt64)), .second, .val (.int (1 : Int32)), .val (.long ((p1.toInt64) - ((2 : Int64) * (((p1.toInt64) * ((0 : Int32).toInt64)) + ((p1 / (2 : Int32)).toInt64))))), .second, .val (.int (1 : Int32)), .unset] [(.long ((2 : Int64) * (((p1.toInt64) * ((0 : Int32).toInt64)) + ((p1 / (2 : Int32)).toInt64))))])) _
    refine st8 _ ?_
    show Steps p.tables e below (T8.setTop (mkF m 100 #[.val (.int p1), .val (.int p2), .val (.int p3), .val (.int p4), .val (.ref b1), .val (.ref b3), .val (.long (((p1.toInt64) * ((0 : Int32).toInt64)) + ((p1 / (2 : Int32)).toInt64))), .second, .val (.long (((p1.toInt64) * (p2.toInt64)) + ((p1 / (2 : Int32)).toInt64))), .second, .val (.long (p1.toInt64)), .second, .val (.int (1 : Int32)), .val (.long ((p1.toInt64) - ((2 : Int64) * (((p1.toInt64) * ((0 : Int32).toInt64)) + ((p1 / (2 : Int32)).toInt64))))), .second, .val (.int (1 : Int32)), .unset] [(.long (own_abs ((2 : Int64) * (((p1.toInt64) * ((0 : Int32).toInt64)) + ((p1 / (2 : Int32)).toInt64)))))])) _
    refine XS.lload X8.here hx rfl (hb hby at_100) rfl ?_
    show Steps p.tables e below (T8.setTop (mkF m 102 #[.val (.int p1), .val (.int p2), .val (.int p3), .val (.int p4), .val (.ref b1), .val (.ref b3), .val (.long (((p1.toInt64) * ((0 : Int32).toInt64)) + ((p1 / (2 : Int32)).toInt64))), .second, .val (.long (((p1.toInt64) * (p2.toInt64)) + ((p1 / (2 : Int32)).toInt64))), .second, .val (.long (p1.toInt64)), .second, .val (.int (1 : Int32)), .val (.long ((p1.toInt64) - ((2 : Int64) * (((p1.toInt64) * ((0 : Int32).toInt64)) + ((p1 / (2 : Int32)).toInt64))))), .second, .val (.int (1 : Int32)), .unset] [(.long (p1.toInt64)), (.long (own_abs ((2 : Int64) * (((p1.toInt64) * ((0 : Int32).toInt64)) + ((p1 / (2 : Int32)).toInt64)))))])) _
    refine st9 _ ?_
    show Steps p.tables e below (T9.setTop (mkF m 105 #[.val (.int p1), .val (.int p2), .val (.int p3), .val (.int p4), .val (.ref b1), .val (.ref b3), .val (.long (((p1.toInt64) * ((0 : Int32).toInt64)) + ((p1 / (2 : Int32)).toInt64))), .second, .val (.long (((p1.toInt64) * (p2.toInt64)) + ((p1 / (2 : Int32)).toInt64))), .second, .val (.long (p1.toInt64)), .second, .val (.int (1 : Int32)), .val (.long ((p1.toInt64) - ((2 : Int64) * (((p1.toInt64) * ((0 : Int32).toInt64)) + ((p1 / (2 : Int32)).toInt64))))), .second, .val (.int (1 : Int32)), .unset] [(.long (own_abs (p1.toInt64))), (.long (own_abs ((2 : Int64) * (((p1.toInt64) * ((0 : Int32).toInt64)) + ((p1 / (2 : Int32)).toInt64)))))])) _
    refine XS.lcmp X9.here hx rfl (hb hby at_105) rfl ?_
    show Steps p.tables e below (T9.setTop (mkF m 106 #[.val (.int p1), .val (.int p2), .val (.int p3), .val (.int p4), .val (.ref b1), .val (.ref b3), .val (.long (((p1.toInt64) * ((0 : Int32).toInt64)) + ((p1 / (2 : Int32)).toInt64))), .second, .val (.long (((p1.toInt64) * (p2.toInt64)) + ((p1 / (2 : Int32)).toInt64))), .second, .val (.long (p1.toInt64)), .second, .val (.int (1 : Int32)), .val (.long ((p1.toInt64) - ((2 : Int64) * (((p1.toInt64) * ((0 : Int32).toInt64)) + ((p1 / (2 : Int32)).toInt64))))), .second, .val (.int (1 : Int32)), .unset] [(.int (lcmpW (own_abs ((2 : Int64) * (((p1.toInt64) * ((0 : Int32).toInt64)) + ((p1 / (2 : Int32)).toInt64)))) (own_abs (p1.toInt64))))])) _
    refine XS.ifNo X9.here hx rfl (hb hby at_106) rfl ((if0 _ _).trans (flt (fun q => (by rw [own_q]; exact own_f3 p1 : ¬ ((own_abs (p1.toInt64)) < (own_abs ((2 : Int64) * (((p1.toInt64) * ((0 : Int32).toInt64)) + ((p1 / (2 : Int32)).toInt64)))))) ((lw_gt (own_abs ((2 : Int64) * (((p1.toInt64) * ((0 : Int32).toInt64)) + ((p1 / (2 : Int32)).toInt64)))) (own_abs (p1.toInt64))).mp q))).2.2.1) ?_
    show Steps p.tables e below (T9.setTop (mkF m 109 #[.val (.int p1), .val (.int p2), .val (.int p3), .val (.int p4), .val (.ref b1), .val (.ref b3), .val (.long (((p1.toInt64) * ((0 : Int32).toInt64)) + ((p1 / (2 : Int32)).toInt64))), .second, .val (.long (((p1.toInt64) * (p2.toInt64)) + ((p1 / (2 : Int32)).toInt64))), .second, .val (.long (p1.toInt64)), .second, .val (.int (1 : Int32)), .val (.long ((p1.toInt64) - ((2 : Int64) * (((p1.toInt64) * ((0 : Int32).toInt64)) + ((p1 / (2 : Int32)).toInt64))))), .second, .val (.int (1 : Int32)), .unset] [])) _
    refine XS.iconst X9.here hx rfl (hb hby at_109) ?_
    show Steps p.tables e below (T9.setTop (mkF m 110 #[.val (.int p1), .val (.int p2), .val (.int p3), .val (.int p4), .val (.ref b1), .val (.ref b3), .val (.long (((p1.toInt64) * ((0 : Int32).toInt64)) + ((p1 / (2 : Int32)).toInt64))), .second, .val (.long (((p1.toInt64) * (p2.toInt64)) + ((p1 / (2 : Int32)).toInt64))), .second, .val (.long (p1.toInt64)), .second, .val (.int (1 : Int32)), .val (.long ((p1.toInt64) - ((2 : Int64) * (((p1.toInt64) * ((0 : Int32).toInt64)) + ((p1 / (2 : Int32)).toInt64))))), .second, .val (.int (1 : Int32)), .unset] [(.int (1 : Int32))])) _
    refine XS.goto X9.here hx rfl (pc0 := 110) (pc' := 114) rfl (hb hby at_110) (by decide) (by decide) ?_
    show Steps p.tables e below (T9.setTop (mkF m 114 #[.val (.int p1), .val (.int p2), .val (.int p3), .val (.int p4), .val (.ref b1), .val (.ref b3), .val (.long (((p1.toInt64) * ((0 : Int32).toInt64)) + ((p1 / (2 : Int32)).toInt64))), .second, .val (.long (((p1.toInt64) * (p2.toInt64)) + ((p1 / (2 : Int32)).toInt64))), .second, .val (.long (p1.toInt64)), .second, .val (.int (1 : Int32)), .val (.long ((p1.toInt64) - ((2 : Int64) * (((p1.toInt64) * ((0 : Int32).toInt64)) + ((p1 / (2 : Int32)).toInt64))))), .second, .val (.int (1 : Int32)), .unset] [(.int (1 : Int32))])) _
    refine XS.istore X9.here hx rfl (hb hby at_114) rfl (l' := #[.val (.int p1), .val (.int p2), .val (.int p3), .val (.int p4), .val (.ref b1), .val (.ref b3), .val (.long (((p1.toInt64) * ((0 : Int32).toInt64)) + ((p1 / (2 : Int32)).toInt64))), .second, .val (.long (((p1.toInt64) * (p2.toInt64)) + ((p1 / (2 : Int32)).toInt64))), .second, .val (.long (p1.toInt64)), .second, .val (.int (1 : Int32)), .val (.long ((p1.toInt64) - ((2 : Int64) * (((p1.toInt64) * ((0 : Int32).toInt64)) + ((p1 / (2 : Int32)).toInt64))))), .second, .val (.int (1 : Int32)), .val (.int (1 : Int32))]) rfl ?_
    show Steps p.tables e below (T9.setTop (mkF m 116 #[.val (.int p1), .val (.int p2), .val (.int p3), .val (.int p4), .val (.ref b1), .val (.ref b3), .val (.long (((p1.toInt64) * ((0 : Int32).toInt64)) + ((p1 / (2 : Int32)).toInt64))), .second, .val (.long (((p1.toInt64) * (p2.toInt64)) + ((p1 / (2 : Int32)).toInt64))), .second, .val (.long (p1.toInt64)), .second, .val (.int (1 : Int32)), .val (.long ((p1.toInt64) - ((2 : Int64) * (((p1.toInt64) * ((0 : Int32).toInt64)) + ((p1 / (2 : Int32)).toInt64))))), .second, .val (.int (1 : Int32)), .val (.int (1 : Int32))] [])) _
    refine XS.iload X9.here hx rfl (hb hby at_116) rfl ?_
    show Steps p.tables e below (T9.setTop (mkF m 118 #[.val (.int p1), .val (.int p2), .val (.int p3), .val (.int p4), .val (.ref b1), .val (.ref b3), .val (.long (((p1.toInt64) * ((0 : Int32).toInt64)) + ((p1 / (2 : Int32)).toInt64))), .second, .val (.long (((p1.toInt64) * (p2.toInt64)) + ((p1 / (2 : Int32)).toInt64))), .second, .val (.long (p1.toInt64)), .second, .val (.int (1 : Int32)), .val (.long ((p1.toInt64) - ((2 : Int64) * (((p1.toInt64) * ((0 : Int32).toInt64)) + ((p1 / (2 : Int32)).toInt64))))), .second, .val (.int (1 : Int32)), .val (.int (1 : Int32))] [(.int (1 : Int32))])) _
    refine XS.ifNo X9.here hx rfl (hb hby at_118) rfl ((if0 _ _).trans (feq (by decide : ¬ ((1 : Int32) = (0 : Int32)))).1) ?_
    show Steps p.tables e below (T9.setTop (mkF m 121 #[.val (.int p1), .val (.int p2), .val (.int p3), .val (.int p4), .val (.ref b1), .val (.ref b3), .val (.long (((p1.toInt64) * ((0 : Int32).toInt64)) + ((p1 / (2 : Int32)).toInt64))), .second, .val (.long (((p1.toInt64) * (p2.toInt64)) + ((p1 / (2 : Int32)).toInt64))), .second, .val (.long (p1.toInt64)), .second, .val (.int (1 : Int32)), .val (.long ((p1.toInt64) - ((2 : Int64) * (((p1.toInt64) * ((0 : Int32).toInt64)) + ((p1 / (2 : Int32)).toInt64))))), .second, .val (.int (1 : Int32)), .val (.int (1 : Int32))] [])) _
    refine XS.iload X9.here hx rfl (hb hby at_121) rfl ?_
    show Steps p.tables e below (T9.setTop (mkF m 123 #[.val (.int p1), .val (.int p2), .val (.int p3), .val (.int p4), .val (.ref b1), .val (.ref b3), .val (.long (((p1.toInt64) * ((0 : Int32).toInt64)) + ((p1 / (2 : Int32)).toInt64))), .second, .val (.long (((p1.toInt64) * (p2.toInt64)) + ((p1 / (2 : Int32)).toInt64))), .second, .val (.long (p1.toInt64)), .second, .val (.int (1 : Int32)), .val (.long ((p1.toInt64) - ((2 : Int64) * (((p1.toInt64) * ((0 : Int32).toInt64)) + ((p1 / (2 : Int32)).toInt64))))), .second, .val (.int (1 : Int32)), .val (.int (1 : Int32))] [(.int (1 : Int32))])) _
    refine XS.ifNo X9.here hx rfl (hb hby at_123) rfl ((if0 _ _).trans (feq (by decide : ¬ ((1 : Int32) = (0 : Int32)))).1) ?_
    show Steps p.tables e below (T9.setTop (mkF m 126 #[.val (.int p1), .val (.int p2), .val (.int p3), .val (.int p4), .val (.ref b1), .val (.ref b3), .val (.long (((p1.toInt64) * ((0 : Int32).toInt64)) + ((p1 / (2 : Int32)).toInt64))), .second, .val (.long (((p1.toInt64) * (p2.toInt64)) + ((p1 / (2 : Int32)).toInt64))), .second, .val (.long (p1.toInt64)), .second, .val (.int (1 : Int32)), .val (.long ((p1.toInt64) - ((2 : Int64) * (((p1.toInt64) * ((0 : Int32).toInt64)) + ((p1 / (2 : Int32)).toInt64))))), .second, .val (.int (1 : Int32)), .val (.int (1 : Int32))] [])) _
    refine XS.iload X9.here hx rfl (hb hby at_126) rfl ?_
    show Steps p.tables e below (T9.setTop (mkF m 128 #[.val (.int p1), .val (.int p2), .val (.int p3), .val (.int p4), .val (.ref b1), .val (.ref b3), .val (.long (((p1.toInt64) * ((0 : Int32).toInt64)) + ((p1 / (2 : Int32)).toInt64))), .second, .val (.long (((p1.toInt64) * (p2.toInt64)) + ((p1 / (2 : Int32)).toInt64))), .second, .val (.long (p1.toInt64)), .second, .val (.int (1 : Int32)), .val (.long ((p1.toInt64) - ((2 : Int64) * (((p1.toInt64) * ((0 : Int32).toInt64)) + ((p1 / (2 : Int32)).toInt64))))), .second, .val (.int (1 : Int32)), .val (.int (1 : Int32))] [(.int (1 : Int32))])) _
    refine XS.ifNo X9.here hx rfl (hb hby at_128) rfl ((if0 _ _).trans (feq (by decide : ¬ ((1 : Int32) = (0 : Int32)))).1) ?_
    show Steps p.tables e below (T9.setTop (mkF m 131 #[.val (.int p1), .val (.int p2), .val (.int p3), .val (.int p4), .val (.ref b1), .val (.ref b3), .val (.long (((p1.toInt64) * ((0 : Int32).toInt64)) + ((p1 / (2 : Int32)).toInt64))), .second, .val (.long (((p1.toInt64) * (p2.toInt64)) + ((p1 / (2 : Int32)).toInt64))), .second, .val (.long (p1.toInt64)), .second, .val (.int (1 : Int32)), .val (.long ((p1.toInt64) - ((2 : Int64) * (((p1.toInt64) * ((0 : Int32).toInt64)) + ((p1 / (2 : Int32)).toInt64))))), .second, .val (.int (1 : Int32)), .val (.int (1 : Int32))] [])) _
    refine XS.iconst X9.here hx rfl (hb hby at_131) ?_
    show Steps p.tables e below (T9.setTop (mkF m 132 #[.val (.int p1), .val (.int p2), .val (.int p3), .val (.int p4), .val (.ref b1), .val (.ref b3), .val (.long (((p1.toInt64) * ((0 : Int32).toInt64)) + ((p1 / (2 : Int32)).toInt64))), .second, .val (.long (((p1.toInt64) * (p2.toInt64)) + ((p1 / (2 : Int32)).toInt64))), .second, .val (.long (p1.toInt64)), .second, .val (.int (1 : Int32)), .val (.long ((p1.toInt64) - ((2 : Int64) * (((p1.toInt64) * ((0 : Int32).toInt64)) + ((p1 / (2 : Int32)).toInt64))))), .second, .val (.int (1 : Int32)), .val (.int (1 : Int32))] [(.int (1 : Int32))])) _
    refine XS.goto X9.here hx rfl (pc0 := 132) (pc' := 136) rfl (hb hby at_132) (by decide) (by decide) ?_
    exact k
  obtain ⟨fs, hr, hrun, hended, hW, hsame⟩ := X9.leave (v := some (.int (1 : Int32))) (fun h => by rw [Bd.returns] at h; cases h)
  refine ⟨_, _, pre10 _ ?_, hrun, hended, _, _, rfl, ?_, ⟨_, rfl⟩, hW, hsame.mono (by decide) (by decide)⟩
  · show Steps p.tables e below (T9.setTop (mkF m 136 #[.val (.int p1), .val (.int p2), .val (.int p3), .val (.int p4), .val (.ref b1), .val (.ref b3), .val (.long (((p1.toInt64) * ((0 : Int32).toInt64)) + ((p1 / (2 : Int32)).toInt64))), .second, .val (.long (((p1.toInt64) * (p2.toInt64)) + ((p1 / (2 : Int32)).toInt64))), .second, .val (.long (p1.toInt64)), .second, .val (.int (1 : Int32)), .val (.long ((p1.toInt64) - ((2 : Int64) * (((p1.toInt64) * ((0 : Int32).toInt64)) + ((p1 / (2 : Int32)).toInt64))))), .second, .val (.int (1 : Int32)), .val (.int (1 : Int32))] [(.int (1 : Int32))])) _
    exact retN X9 hx (t := .boolean) Bd.returns (by simp) (hb hby at_136) hr
  · show own_Q0 Z p1 p2 p3 p4 h0 n0 _ T9.heap _
    rw [e9]
    exact ⟨rfl, N9⟩
set_option maxRecDepth 65536 in
set_option maxHeartbeats 40000000 in
theorem comes_1 {Post : Tables → Env → Array Value → State → Outcome → State → Prop} (hpost : ∀ tb e args s v u, (limb_1_1.after args s (.returned v) u = true ∧ limb_1_2.after args s (.returned v) u = true ∧ True) → FrameEnd s (.returned v) u (Jvm.fieldLocs frame_1_writes args s ++ Jvm.arrayLocs frame_1_arrays args s ++ Jvm.staticLocs frame_1_statics s) 16 128 → Post tb e args s (.returned v) u) :
    ArmFor flags0 classFile x code maxLocals ret World_1 tables_1 room_1 Calls_1 rest_1 Pre_1 Post := by
  intro l hfl _ _ p e ha hc hk s m args below hf hA hF happ hP
  obtain ⟨hcalls, hrest, hpre⟩ := hP
  obtain ⟨-, -, -, hnamed, -, -, -, hat⟩ := (Spec.applies_iff hf).mp happ
  obtain ⟨hg, hn⟩ := and_e (Cond.before_iff.mp (show (Jvm.Cond.and given_1 narrow_1).before args s = true from hpre))
  obtain ⟨hg2, hg3⟩ := and_e hg
  obtain ⟨hg4, hg5⟩ := and_e hg3
  obtain ⟨hg6, hg7⟩ := and_e hg5
  obtain ⟨hg8, hg9⟩ := and_e hg7
  obtain ⟨w0, w1, w2, w3, rfl⟩ : ∃ w0 w1 w2 w3 : Value, args = #[w0, w1, w2, w3] := by
    have hs : args.size = 4 := by simpa [Cond.value, given_1] using hg2
    obtain ⟨L⟩ := args
    match L, hs with
    | [w0, w1, w2, w3], _ => exact ⟨w0, w1, w2, w3, rfl⟩
  have hw := fun d (hd : d ∈ tables_1) => atoms_spec (ws := Jvm.Cond.code x code maxLocals ret :: tables_1) hat d (List.mem_cons_of_mem _ hd)
  obtain ⟨i0, ei0⟩ := is_v hg4
  obtain rfl : w0 = (.int i0) := Option.some.inj ei0
  obtain ⟨i1, ei1⟩ := is_v hg6
  obtain rfl : w1 = (.int i1) := Option.some.inj ei1
  obtain ⟨i2, ei2⟩ := is_v hg8
  obtain rfl : w2 = (.int i2) := Option.some.inj ei2
  obtain ⟨i3, ei3⟩ := is_v hg9
  obtain rfl : w3 = (.int i3) := Option.some.inj ei3
  obtain ⟨n, o, h1, h2, h3, _, L, rfl, ⟨rfl, N⟩, hq⟩ := rm0 l s _ hw tables_1 i0 i1 i2 i3  s.heap s.heap.size (Nat.le_refl _)  p e ha hc hk s m _ below hf ((Spec.applies_iff_loose hf).mp happ).1 ⟨rfl, State.Warmed39.refl s, rfl⟩ trivial
  refine ⟨n, _, h1, h2, h3, hpost _ _ _ _ _ _ ⟨Cond.after_iff.mpr rfl, Cond.after_iff.mpr (eq_i res_at (Term.int_eval (1)) rfl), trivial⟩ ⟨hq.1, hq.2.1, (hq.2.2.sift fun y hy => Or.inr (N y hy)).mono (by decide) (by decide)⟩⟩
theorem main_1_1 : Claimed_1_1 := comes_1 fun _ _ _ _ _ _ h hF => ⟨h.1, hF⟩
theorem main_1_2 : Claimed_1_2 := comes_1 fun _ _ _ _ _ _ h hF => ⟨h.2.1, hF⟩
end Jvm.Pilot.@@N@@
namespace Jvm.Pilot.@@N@@
open Jvm Jvm.ClassFile Sem Op Lib Jvm.Free Jvm.Stand Jvm.Pilot.@@N@@.Jvm.D
/-! MADE BY PROGRAM (witnessworld.py) out of the Statement's table words and the real class files: 11 classes; the members and pool entries that the words name. The judged class is class 1, her method 1. -/
namespace start1
open Jvm.ClassFile
def u (s : String) : CpInfo := .utf8 (stringToUtf16 s)
/-- a pool by its gaps: so many unusable entries, then the entry; so many at the end -/
def gap : Nat → List CpInfo → List CpInfo
  | 0, r => r
  | n + 1, r => .unusable :: gap n r
def poolList (es : List (Nat × CpInfo)) (last : Nat) : List CpInfo := es.foldr (fun e r => gap e.1 (e.2 :: r)) (gap last [])
def pool (es : List (Nat × CpInfo)) (last : Nat) : Array CpInfo := ⟨poolList es last⟩
def fileOf (pool : Array CpInfo) (this : Nat) (attrs : Array Attribute := #[]) (ms : Array MethodInfo := #[]) (fl : Nat := 33) (sup : Nat := 0) (ifs : Array Nat := #[]) (fds : Array FieldInfo := #[]) : ClassFile where
  minorVersion := 0
  majorVersion := 65
  constantPool := pool
  accessFlags := fl
  thisClass := this
  superClass := sup
  interfaces := ifs
  fields := fds
  methods := ms
  attributes := attrs
def plain (name : String) (sup : Option ClassId) : Class where
  name := name
  kind := .ordinary
  loader := none
  accessFlags := 33
  super := sup
  interfaces := #[]
  cf := none
  fields := #[]
  methods := #[]
  instanceTypes := #[]
  staticTypes := #[]
  resolved := #[]
  callSites := []
  init := .initialized
  statics := none
  mirror := none

def pool0 : Array CpInfo := pool [(5, u "<init>"), (0, u "()V"), (1, .class_ 10), (1, u "java/lang/Object")] 113

def k0c0 : Code := { maxStack := 0, maxLocals := 1, code := object_method_1_code, exceptionTable := #[], attributes := #[] }
def k0m0 : Method := { name := "<init>", desc := "()V", sig := { parameters := [], returnType := none }, accessFlags := 1, code := some k0c0 }
/-- java/lang/Object -/
def k0 : Class := { plain "java/lang/Object" none with
  accessFlags := 33
  interfaces := #[]
  cf := some (fileOf pool0 8 #[] #[{ accessFlags := 1, nameIndex := 5, descriptorIndex := 6, attributes := #[] }] 33 0 #[] #[])
  fields := #[]
  methods := #[k0m0]
  instanceTypes := #[]
  staticTypes := #[]
  resolved := Array.replicate 124 none
  statics := none }

def pool1 : Array CpInfo := pool [(2, .class_ 4), (1, u "java/lang/Object"), (0, u "<init>"), (0, u "()V"), (0, .class_ 8), (0, u "com/example/leafcutter/leafcutter/Heartbeats"), (0, .methodref 7 10), (0, .nameAndType 5 11), (0, u "(III)V"), (0, .methodref 7 13), (0, .nameAndType 14 15), (0, u "retireAfterMs"), (0, u "()J"), (0, .long 2), (1, .methodref 19 20), (0, .class_ 21), (0, .nameAndType 22 23), (0, u "java/lang/Math"), (0, u "abs"), (0, u "(J)J"), (0, .class_ 25), (0, u "com/example/leafcutter/leafcutter/HeartbeatsRetireAfterMsPinLaw"), (2, u "law"), (0, u "(IIII)Z")] 3

def k1m0 : Method := { name := "<init>", desc := "()V", sig := { parameters := [], returnType := none }, accessFlags := 1, code := none }
def k1c1 : Code := { maxStack := 6, maxLocals := 17, code := code, exceptionTable := #[], attributes := #[] }
def k1m1 : Method := { name := "law", desc := "(IIII)Z", sig := { parameters := [.int, .int, .int, .int], returnType := some .boolean }, accessFlags := 9, code := some k1c1 }
/-- com/example/leafcutter/leafcutter/HeartbeatsRetireAfterMsPinLaw -/
def k1 : Class := { plain "com/example/leafcutter/leafcutter/HeartbeatsRetireAfterMsPinLaw" (some 0) with
  accessFlags := 49
  interfaces := #[]
  cf := some (fileOf pool1 24 #[] #[{ accessFlags := 1, nameIndex := 5, descriptorIndex := 6, attributes := #[] }, { accessFlags := 9, nameIndex := 28, descriptorIndex := 29, attributes := #[] }] 49 2 #[] #[])
  fields := #[]
  methods := #[k1m0, k1m1]
  instanceTypes := #[]
  staticTypes := #[]
  resolved := Array.replicate 33 none
  statics := none }

def pool2 : Array CpInfo := pool [(1, .methodref 2 3), (0, .class_ 4), (0, .nameAndType 5 6), (0, u "java/lang/Object"), (0, u "<init>"), (0, u "()V"), (0, .class_ 8), (0, u "java/lang/Record")] 13

def k2c0 : Code := { maxStack := 1, maxLocals := 1, code := jdk_30_method_1_code, exceptionTable := #[], attributes := #[] }
def k2m0 : Method := { name := "<init>", desc := "()V", sig := { parameters := [], returnType := none }, accessFlags := 4, code := some k2c0 }
/-- java/lang/Record -/
def k2 : Class := { plain "java/lang/Record" (some 0) with
  accessFlags := 1057
  interfaces := #[]
  cf := some (fileOf pool2 7 #[] #[{ accessFlags := 4, nameIndex := 5, descriptorIndex := 6, attributes := #[] }] 1057 2 #[] #[])
  fields := #[]
  methods := #[k2m0]
  instanceTypes := #[]
  staticTypes := #[]
  resolved := Array.replicate 22 none
  statics := none }

def pool3 : Array CpInfo := pool [(1, .methodref 2 3), (0, .class_ 4), (0, .nameAndType 5 6), (0, u "java/lang/Record"), (0, u "<init>"), (0, u "()V"), (0, .fieldref 8 9), (0, .class_ 10), (0, .nameAndType 11 12), (0, u "com/example/leafcutter/leafcutter/Heartbeats"), (0, u "rateMs"), (0, u "I"), (0, .fieldref 8 14), (0, .nameAndType 15 12), (0, u "threshold"), (0, .fieldref 8 17), (0, .nameAndType 18 12), (0, u "retiredKeepMs"), (12, u "(III)V"), (3, u "retireAfterMs"), (0, u "()J")] 25

def k3c0 : Code := { maxStack := 2, maxLocals := 4, code := prog_17_method_1_code, exceptionTable := #[], attributes := #[] }
def k3m0 : Method := { name := "<init>", desc := "(III)V", sig := { parameters := [.int, .int, .int], returnType := none }, accessFlags := 0, code := some k3c0 }
def k3c1 : Code := { maxStack := 4, maxLocals := 1, code := prog_17_method_2_code, exceptionTable := #[], attributes := #[] }
def k3m1 : Method := { name := "retireAfterMs", desc := "()J", sig := { parameters := [], returnType := some .long }, accessFlags := 0, code := some k3c1 }
/-- com/example/leafcutter/leafcutter/Heartbeats -/
def k3 : Class := { plain "com/example/leafcutter/leafcutter/Heartbeats" (some 2) with
  accessFlags := 48
  interfaces := #[]
  cf := some (fileOf pool3 8 #[] #[{ accessFlags := 0, nameIndex := 5, descriptorIndex := 31, attributes := #[] }, { accessFlags := 0, nameIndex := 35, descriptorIndex := 36, attributes := #[] }] 48 2 #[] #[{ accessFlags := 18, nameIndex := 11, descriptorIndex := 12, attributes := #[] }, { accessFlags := 18, nameIndex := 15, descriptorIndex := 12, attributes := #[] }, { accessFlags := 18, nameIndex := 18, descriptorIndex := 12, attributes := #[] }])
  fields := #[{ name := "rateMs", type := .int, accessFlags := 18, slot := 0, constantValue := 0 }, { name := "threshold", type := .int, accessFlags := 18, slot := 1, constantValue := 0 }, { name := "retiredKeepMs", type := .int, accessFlags := 18, slot := 2, constantValue := 0 }]
  methods := #[k3m0, k3m1]
  instanceTypes := #[.int, .int, .int]
  staticTypes := #[]
  resolved := Array.replicate 62 none
  statics := none }

def pool4 : Array CpInfo := pool [(1, .class_ 2), (0, u "java/lang/Math"), (1, .class_ 6), (1, u "java/lang/Object"), (0, u "<init>"), (0, u "()V"), (89, .class_ 100), (1, u "java/lang/Math$RandomNumberGeneratorHolder"), (23, u "abs"), (0, u "(J)J"), (46, u "negativeZeroFloatBits"), (0, u "J"), (2, u "negativeZeroDoubleBits"), (68, u "$assertionsDisabled"), (0, u "Z"), (91, u "twoToTheDoubleScaleDown"), (0, u "D"), (4, u "twoToTheDoubleScaleUp"), (9, u "E"), (3, u "PI"), (2, u "TAU"), (2, u "DEGREES_TO_RADIANS"), (0, u "RADIANS_TO_DEGREES")] 94

def k4m0 : Method := { name := "<init>", desc := "()V", sig := { parameters := [], returnType := none }, accessFlags := 2, code := none }
def k4c1 : Code := { maxStack := 4, maxLocals := 2, code := jdk_29_method_61_code, exceptionTable := #[], attributes := #[] }
def k4m1 : Method := { name := "abs", desc := "(J)J", sig := { parameters := [.long], returnType := some .long }, accessFlags := 9, code := some k4c1 }
/-- java/lang/Math -/
def k4 : Class := { plain "java/lang/Math" (some 0) with
  accessFlags := 49
  interfaces := #[]
  cf := some (fileOf pool4 1 #[.nestMembers #[98]] #[{ accessFlags := 2, nameIndex := 7, descriptorIndex := 8, attributes := #[] }, { accessFlags := 9, nameIndex := 124, descriptorIndex := 125, attributes := #[] }] 49 4 #[] #[{ accessFlags := 25, nameIndex := 354, descriptorIndex := 339, attributes := #[] }, { accessFlags := 25, nameIndex := 358, descriptorIndex := 339, attributes := #[] }, { accessFlags := 25, nameIndex := 361, descriptorIndex := 339, attributes := #[] }, { accessFlags := 26, nameIndex := 364, descriptorIndex := 339, attributes := #[] }, { accessFlags := 26, nameIndex := 365, descriptorIndex := 339, attributes := #[] }, { accessFlags := 26, nameIndex := 172, descriptorIndex := 173, attributes := #[] }, { accessFlags := 26, nameIndex := 176, descriptorIndex := 173, attributes := #[] }, { accessFlags := 8, nameIndex := 344, descriptorIndex := 339, attributes := #[] }, { accessFlags := 8, nameIndex := 338, descriptorIndex := 339, attributes := #[] }, { accessFlags := 4120, nameIndex := 245, descriptorIndex := 246, attributes := #[] }])
  fields := #[{ name := "E", type := .double, accessFlags := 25, slot := 0, constantValue := 0 }, { name := "PI", type := .double, accessFlags := 25, slot := 1, constantValue := 0 }, { name := "TAU", type := .double, accessFlags := 25, slot := 2, constantValue := 0 }, { name := "DEGREES_TO_RADIANS", type := .double, accessFlags := 26, slot := 3, constantValue := 0 }, { name := "RADIANS_TO_DEGREES", type := .double, accessFlags := 26, slot := 4, constantValue := 0 }, { name := "negativeZeroFloatBits", type := .long, accessFlags := 26, slot := 5, constantValue := 0 }, { name := "negativeZeroDoubleBits", type := .long, accessFlags := 26, slot := 6, constantValue := 0 }, { name := "twoToTheDoubleScaleUp", type := .double, accessFlags := 8, slot := 7, constantValue := 0 }, { name := "twoToTheDoubleScaleDown", type := .double, accessFlags := 8, slot := 8, constantValue := 0 }, { name := "$assertionsDisabled", type := .boolean, accessFlags := 4120, slot := 9, constantValue := 0 }]
  methods := #[k4m0, k4m1]
  instanceTypes := #[]
  staticTypes := #[.double, .double, .double, .double, .double, .long, .long, .double, .double, .boolean]
  resolved := Array.replicate 460 none
  statics := none }

def pool5 : Array CpInfo := pool [(1, u "java/lang/Cloneable"), (0, .class_ 1), (0, u "java/lang/Object"), (0, .class_ 3)] 3

/-- java/lang/Cloneable -/
def k5 : Class := { plain "java/lang/Cloneable" (some 0) with
  accessFlags := 1537
  interfaces := #[]
  cf := some (fileOf pool5 2 #[] #[] 1537 4 #[] #[])
  fields := #[]
  methods := #[]
  instanceTypes := #[]
  staticTypes := #[]
  resolved := Array.replicate 8 none
  statics := none }

def pool6 : Array CpInfo := pool [(1, u "java/io/Serializable"), (0, .class_ 1), (0, u "java/lang/Object"), (0, .class_ 3)] 3

/-- java/io/Serializable -/
def k6 : Class := { plain "java/io/Serializable" (some 0) with
  accessFlags := 1537
  interfaces := #[]
  cf := some (fileOf pool6 2 #[] #[] 1537 4 #[] #[])
  fields := #[]
  methods := #[]
  instanceTypes := #[]
  staticTypes := #[]
  resolved := Array.replicate 8 none
  statics := none }

/-- the primitive byte -/
def k7 : Class := { plain "byte" none with kind := .primitive 'B', accessFlags := 0x411 }
/-- [B -/
def k8 : Class := { plain "[B" (some 0) with kind := .array 7 .byte, interfaces := #[5, 6], accessFlags := 1041 }

/-- the primitive int -/
def k9 : Class := { plain "int" none with kind := .primitive 'I', accessFlags := 0x411 }
/-- [I -/
def k10 : Class := { plain "[I" (some 0) with kind := .array 9 .int, interfaces := #[5, 6], accessFlags := 1041 }

def heap : Heap := #[]
def classes : Array Class := #[k0, k1, k2, k3, k4, k5, k6, k7, k8, k9, k10]
def interned : List (Array UInt16 × Addr) := []
def slotsUsed : Nat := 0
def theMethod : MethodId := ⟨1, 1⟩
def args0 : Array Value := #[.int 5, .int 7, .int 1, .int 2]
def aboutOver (below : List Frame) : State where
  vm := { classes := classes, interned := interned.toArray }
  heap := heap
  slotsUsed := slotsUsed
  threads := #[{ frames := .invoking theMethod args0 :: below }]
def below0 : List Frame := [.native { method := ⟨0, 0⟩, args := #[] }]
def about1 : State := aboutOver below0
def p0 : Program := .bare "" "" ""
def e0 : Env := launch0.env 0 0 0
theorem w_frames : about1.frames = Frame.invoking theMethod args0 :: below0 := rfl
set_option maxRecDepth 65536 in
theorem w_args : argsFit about1.vm theMethod args0 = true := by decide +kernel
set_option maxRecDepth 65536 in
theorem w_heap : heapFits about1 = true := by decide +kernel
set_option maxRecDepth 65536 in
theorem w_runnable : about1.curStatus? = some .runnable := by decide +kernel
set_option maxRecDepth 65536 in
theorem w_alone : about1.alone = true := by decide +kernel
set_option maxRecDepth 65536 in
theorem w_named : about1.methodNamed? x = some theMethod := by decide +kernel
set_option maxRecDepth 65536 in
theorem w_hears : about1.hears theMethod below0 = true := by decide +kernel
set_option maxRecDepth 65536 in
theorem w_ripe : about1.ripe theMethod args0 below0 = true := by decide +kernel
theorem w_running : about1.status = .running := rfl
set_option maxRecDepth 65536 in
theorem w_room : about1.hasRoom e0.platform room_1 = true :=
  launch0.hasRoom_least _ room_1 (by decide +kernel) (by decide +kernel) (by decide +kernel) (by decide +kernel) (by decide +kernel) (by decide +kernel)
theorem allAtoms_all (ts : List Jvm.Cond) (a : Array Jvm.Value) (st : Jvm.State) : (allAtoms ts).before a st = ts.all (fun c => c.before a st) := by
  induction ts with
  | nil => rfl
  | cons c t ih =>
    show (Jvm.Cond.and c (allAtoms t)).before a st = _
    rw [Jvm.Cond.before_and, ih, List.all_cons]
def words1 : List Jvm.Cond := Jvm.Cond.code x code maxLocals ret :: tables_1
/-- a 'code' word, met by the world's own term for the bytes: nothing is compared byte by byte -/
theorem code_word {y : MethodName} {bytes : ByteArray} {mx : Nat} {rt : Option FieldType} {a : Array Value} {s : State} {m : MethodId} {meth : Method} {c : Code} (h1 : s.methodNamed? y = some m) (h2 : s.vm.method? m = some meth) (h3 : meth.code = some c) (h4 : c.code = bytes)
    (h5 : (c.maxLocals == mx && c.exceptionTable.isEmpty && decide (c.maxStack ≤ mostOperands) && decide (meth.sig.returnType = rt) && !meth.locks && decide (parseMethodDescriptor y.desc = some meth.sig)) = true) : (Jvm.Cond.code y bytes mx rt).before a s = true := by
  simp only [Bool.and_eq_true, beq_iff_eq, Bool.not_eq_true', decide_eq_true_eq] at h5
  obtain ⟨⟨⟨⟨⟨g1, g2⟩, g3⟩, g4⟩, g5⟩, g6⟩ := h5
  simp [Cond.before, Cond.holds, Cond.value, h1, h2, h3, h4, g1, g2, g3, g4, g5, g6]
def isCode : Jvm.Cond → Bool
  | .code _ _ _ _ => true
  | _ => false
theorem all_split {L : List Jvm.Cond} {P : Jvm.Cond → Bool} (h1 : L.all (fun c => isCode c || P c) = true) (h2 : ∀ c ∈ L.filter isCode, P c = true) : L.all P = true := by
  refine List.all_eq_true.mpr fun c hc => ?_
  have h := List.all_eq_true.mp h1 c hc
  rcases Bool.eq_false_or_eq_true (isCode c) with hi | hi
  · exact h2 c (List.mem_filter.mpr ⟨hc, hi⟩)
  · simpa [hi] using h
set_option maxRecDepth 65536 in
theorem w_c0 : (Jvm.Cond.code x code maxLocals ret).before args0 about1 = true := code_word (m := ⟨1, 1⟩) (meth := k1m1) (c := k1c1) (by decide +kernel) rfl rfl rfl (by decide +kernel)
set_option maxRecDepth 65536 in
theorem w_c1 : (Jvm.Cond.code ({ cls := "com/example/leafcutter/leafcutter/Heartbeats", name := "<init>", desc := "(III)V" } : Jvm.MethodName) prog_17_method_1_code (4 : Nat) (Option.none : Option Jvm.ClassFile.FieldType)).before args0 about1 = true := code_word (m := ⟨3, 0⟩) (meth := k3m0) (c := k3c0) (by decide +kernel) rfl rfl rfl (by decide +kernel)
set_option maxRecDepth 65536 in
theorem w_c2 : (Jvm.Cond.code ({ cls := "java/lang/Record", name := "<init>", desc := "()V" } : Jvm.MethodName) jdk_30_method_1_code (1 : Nat) (Option.none : Option Jvm.ClassFile.FieldType)).before args0 about1 = true := code_word (m := ⟨2, 0⟩) (meth := k2m0) (c := k2c0) (by decide +kernel) rfl rfl rfl (by decide +kernel)
set_option maxRecDepth 65536 in
theorem w_c3 : (Jvm.Cond.code ({ cls := "java/lang/Object", name := "<init>", desc := "()V" } : Jvm.MethodName) object_method_1_code (1 : Nat) (Option.none : Option Jvm.ClassFile.FieldType)).before args0 about1 = true := code_word (m := ⟨0, 0⟩) (meth := k0m0) (c := k0c0) (by decide +kernel) rfl rfl rfl (by decide +kernel)
set_option maxRecDepth 65536 in
theorem w_c4 : (Jvm.Cond.code ({ cls := "com/example/leafcutter/leafcutter/Heartbeats", name := "retireAfterMs", desc := "()J" } : Jvm.MethodName) prog_17_method_2_code (1 : Nat) (Option.some Jvm.ClassFile.FieldType.long)).before args0 about1 = true := code_word (m := ⟨3, 1⟩) (meth := k3m1) (c := k3c1) (by decide +kernel) rfl rfl rfl (by decide +kernel)
set_option maxRecDepth 65536 in
theorem w_c5 : (Jvm.Cond.code ({ cls := "java/lang/Math", name := "abs", desc := "(J)J" } : Jvm.MethodName) jdk_29_method_61_code (2 : Nat) (Option.some Jvm.ClassFile.FieldType.long)).before args0 about1 = true := code_word (m := ⟨4, 1⟩) (meth := k4m1) (c := k4c1) (by decide +kernel) rfl rfl rfl (by decide +kernel)
def codes1 : List Jvm.Cond := [Jvm.Cond.code x code maxLocals ret, Jvm.Cond.code ({ cls := "com/example/leafcutter/leafcutter/Heartbeats", name := "<init>", desc := "(III)V" } : Jvm.MethodName) prog_17_method_1_code (4 : Nat) (Option.none : Option Jvm.ClassFile.FieldType), Jvm.Cond.code ({ cls := "java/lang/Record", name := "<init>", desc := "()V" } : Jvm.MethodName) jdk_30_method_1_code (1 : Nat) (Option.none : Option Jvm.ClassFile.FieldType), Jvm.Cond.code ({ cls := "java/lang/Object", name := "<init>", desc := "()V" } : Jvm.MethodName) object_method_1_code (1 : Nat) (Option.none : Option Jvm.ClassFile.FieldType), Jvm.Cond.code ({ cls := "com/example/leafcutter/leafcutter/Heartbeats", name := "retireAfterMs", desc := "()J" } : Jvm.MethodName) prog_17_method_2_code (1 : Nat) (Option.some Jvm.ClassFile.FieldType.long), Jvm.Cond.code ({ cls := "java/lang/Math", name := "abs", desc := "(J)J" } : Jvm.MethodName) jdk_29_method_61_code (2 : Nat) (Option.some Jvm.ClassFile.FieldType.long)]
set_option maxRecDepth 65536 in
theorem codes_eq : words1.filter isCode = codes1 := rfl
theorem w_codes : ∀ c ∈ words1.filter isCode, c.before args0 about1 = true := by
  rw [codes_eq]
  intro c hc
  simp only [codes1, List.mem_cons, List.not_mem_nil, or_false] at hc
  rcases hc with rfl | rfl | rfl | rfl | rfl | rfl
  · exact w_c0
  · exact w_c1
  · exact w_c2
  · exact w_c3
  · exact w_c4
  · exact w_c5
set_option maxRecDepth 65536 in
theorem w_t1 : (words1.take 24).all (fun c => isCode c || c.before args0 about1) = true := by decide +kernel
set_option maxRecDepth 65536 in
theorem w_t2 : (words1.drop 24).all (fun c => isCode c || c.before args0 about1) = true := by decide +kernel
theorem w_tables : (allAtoms (Jvm.Cond.code x code maxLocals ret :: tables_1)).before args0 about1 = true := by
  rw [allAtoms_all]
  show words1.all (fun c => c.before args0 about1) = true
  refine all_split ?_ w_codes
  rw [← List.take_append_drop 24 words1, List.all_append, w_t1, w_t2]
  rfl
set_option maxRecDepth 65536 in
theorem w_case : (Jvm.Cond.and given_1 narrow_1).before args0 about1 = true := by decide +kernel
theorem w_applies : (headSpec (Jvm.Cond.code x code maxLocals ret :: tables_1) room_1).applies x e0.platform about1 = true :=
  (Spec.applies_iff w_frames).mpr ⟨w_running, w_runnable, w_alone, w_named, w_hears, w_ripe, w_room, w_tables⟩
theorem atStart : AtStart classFile x code maxLocals ret World_1 tables_1 room_1 Calls_1 rest_1 Pre_1 launch0 p0 e0 about1 theMethod args0 below0 :=
  ⟨lists_1, trivial, launch0.admits_env _ _ _, launch0.least_env, fairChoices_fair.cas, fairChoices_fair.clock, w_frames, w_args, w_heap, w_applies, trivial, trivial, w_case⟩
end start1
theorem witness_1 : WitnessClaimed_1 := ⟨start1.p0, start1.e0, start1.about1, start1.theMethod, start1.args0, start1.below0, start1.atStart⟩
end Jvm.Pilot.@@N@@
