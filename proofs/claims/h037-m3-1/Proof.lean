import JvmDerived
import JvmDerived.Pilot.@@N@@Statement
import JvmDerived.Pilot.@@N@@Code
set_option linter.unusedVariables false
set_option linter.unusedSimpArgs false
namespace Jvm.RoadKit
open Sem ClassFile Op Lib Jvm.Stand Jvm.Free Jvm.LawKit
section New
variable {p : Program} {l : Launch} {e : Env} {R : Room} {s : State} {m : MethodId} {args : Array Value} {below : List Frame} {meth : Method} {c : Code} {T : State} {locs : List Loc} {cells slots : Nat}
theorem retI (X : Stand p l e R s m args below meth c T locs cells slots) (hx : p.tables.exec = Jvm.exec) {pc : Nat} {Ls : Array Slot} {z : Int32} {rest : List Value} (hret : meth.sig.returnType = some .int) (hd : decode c.code pc = .ok (.ireturn, 1)) {fs : List Frame}
    (hl : ∀ (f : JFrame) (acts : List Action), f.method = m → f.locked = none → f.entered = [] → (doReturn e (T.setTop f) acts (some (.int z))).1 = T.setFrames fs) : Steps p.tables e below (T.setTop (mkF m pc Ls (.int z :: rest))) (T.setFrames fs) := by
  have hm' : T.vm.method? m = some meth := X.method'
  have hn : narrow .int (.int z) = .int z := rfl
  show Steps p.tables e below (T.setTop { method := m, pc := pc, locals := Ls, stack := _ :: rest, locked := none }) _
  jvm_step X.here [X.here.top, hx, hd, hm', hret, hn]
  first | (intro acts; rw [hl _ acts rfl rfl rfl]) | rw [hl _ _ rfl rfl rfl]
  exact Steps.refl _
end New
end Jvm.RoadKit
namespace Jvm.Pilot.@@N@@
open Jvm Jvm.ClassFile Sem Op Lib Jvm.Free Jvm.Stand Jvm.LawKit Jvm.RoadKit Bundle Jvm.Pilot.@@N@@.Jvm.D
theorem own_lt (a b : Int32) : a < b ↔ a.toInt < b.toInt := Int32.lt_iff_toInt_lt
theorem own_eq (a b : Int32) : a = b ↔ a.toInt = b.toInt := Int32.toInt_inj.symm
theorem own_getI (l : List Int32) (k : Nat) : (l.map Value.int).getD k (.int 0) = .int (l.getD k 0) := by
  induction l generalizing k with
  | nil => rfl
  | cons a t ih => cases k with
    | zero => rfl
    | succ k => exact ih k
theorem own_nv {z : Int32} (h : z = 0 ∨ z = 1) : narrow .boolean (.int z) = .int z := by rcases h with rfl | rfl <;> rfl
theorem own_fitb {z : Int32} (h : z = 0 ∨ z = 1) : fits .boolean (.int z) = true := by rcases h with rfl | rfl <;> rfl
theorem own_nar {z : Int32} (h : z = 0 ∨ z = 1) : nar .boolean z = z := by rcases h with rfl | rfl <;> rfl
def own_rest (x : Int64) : Int32 := if (512 : Int64) < x then 1 else 0
theorem own_rest1 {x : Int64} (h : (512 : Int64) < x) : (1 : Int32) = own_rest x := by rw [own_rest, if_pos h]
theorem own_rest0 {x : Int64} (h : ¬ (512 : Int64) < x) : (0 : Int32) = own_rest x := by rw [own_rest, if_neg h]
theorem own_m (x : Int32) : (x &&& (1023 : Int32)).toInt = x.toInt % 1024 := c_mask x 1023 10 (by decide) (by decide)
theorem own_m1 (x : Int32) : ¬ (x &&& (1023 : Int32)) < 0 := by
  have q := own_m x
  simp only [own_lt, Int32.reduceToInt]
  omega
theorem own_m2 (x : Int32) : (x &&& (1023 : Int32)).toNatClampNeg ≤ 1023 := by
  have q := own_m x
  have r := nat_of (own_m1 x)
  omega
theorem own_lenN (x : Int32) : ((((0 : Int32) + (6 : Int32)) + (x &&& (1023 : Int32))).toInt64) = (((0 : Int64) + (6 : Int64)) + ((x &&& (1023 : Int32)).toInt64)) := by
  have q := own_m x
  apply Int64.toInt_inj.mp
  rw [c_i2l]
  rw [show (0 : Int32) + (6 : Int32) = 6 from by decide, show (0 : Int64) + (6 : Int64) = 6 from by decide]
  have a := c_iadd 6 (x &&& (1023 : Int32))
  have b := c_ladd 6 ((x &&& (1023 : Int32)).toInt64)
  rw [c_i2l] at b
  have r := rng32 (6 + (x &&& (1023 : Int32)))
  have s := rng64 (6 + ((x &&& (1023 : Int32)).toInt64))
  simp only [Int32.reduceToInt, Int64.reduceToInt] at a b
  omega
theorem own_lenB (y x : Int32) : (((((6 : Int32) + (y &&& (1023 : Int32))) + (6 : Int32)) + (x &&& (1023 : Int32))).toInt64) = ((((6 : Int64) + ((y &&& (1023 : Int32)).toInt64)) + (6 : Int64)) + ((x &&& (1023 : Int32)).toInt64)) := by
  have q := own_m x
  have q' := own_m y
  apply Int64.toInt_inj.mp
  rw [c_i2l]
  have a1 := c_iadd 6 (y &&& (1023 : Int32))
  have a2 := c_iadd ((6 : Int32) + (y &&& (1023 : Int32))) 6
  have a3 := c_iadd (((6 : Int32) + (y &&& (1023 : Int32))) + (6 : Int32)) (x &&& (1023 : Int32))
  have b1 := c_ladd 6 ((y &&& (1023 : Int32)).toInt64)
  have b2 := c_ladd ((6 : Int64) + ((y &&& (1023 : Int32)).toInt64)) 6
  have b3 := c_ladd (((6 : Int64) + ((y &&& (1023 : Int32)).toInt64)) + (6 : Int64)) ((x &&& (1023 : Int32)).toInt64)
  rw [c_i2l] at b1 b3
  have r := rng32 ((((6 : Int32) + (y &&& (1023 : Int32))) + (6 : Int32)) + (x &&& (1023 : Int32)))
  have s := rng64 ((((6 : Int64) + ((y &&& (1023 : Int32)).toInt64)) + (6 : Int64)) + ((x &&& (1023 : Int32)).toInt64))
  simp only [Int32.reduceToInt, Int64.reduceToInt] at a1 a2 b1 b2
  omega
theorem own_pn3 : plainName "com/example/leafcutter/leafcutter/Frame" = true := by first | (simp [plainName, overriddenIn]; done) | decide +kernel
theorem own_pn1 : plainName "com/example/leafcutter/leafcutter/Instance$Frames" = true := by first | (simp [plainName, overriddenIn]; done) | decide +kernel
theorem own_pd0 : parseMethodDescriptor "(Lcom/example/leafcutter/leafcutter/Frame$Type;I[B)V" = some ⟨[(.object "com/example/leafcutter/leafcutter/Frame$Type"), .int, (.array .byte)], none⟩ := by decide +kernel
theorem own_pn4 : plainName "com/example/leafcutter/leafcutter/Instance$Frames" = true := by first | (simp [plainName, overriddenIn]; done) | decide +kernel
theorem own_pn5 : plainName "com/example/leafcutter/leafcutter/Instance$Frames" = true := by first | (simp [plainName, overriddenIn]; done) | decide +kernel
theorem own_pn0 : plainName "com/example/leafcutter/leafcutter/FramesHasRestPinLaw" = true := by first | (simp [plainName, overriddenIn]; done) | decide +kernel
theorem own_pd1 : parseMethodDescriptor "([B[B)V" = some ⟨[(.array .byte), (.array .byte)], none⟩ := by decide +kernel
theorem own_pd2 : parseMethodDescriptor "()Z" = some ⟨[], some .boolean⟩ := by decide +kernel
theorem own_pd3 : parseMethodDescriptor "()V" = some ⟨[], none⟩ := by decide +kernel
theorem own_d3_0 : decode prog_13_method_1_code 0 = .ok (.aload_n 0, 1) := by decide +kernel
theorem own_d3_1 : decode prog_13_method_1_code 1 = .ok (.invokespecial 1, 3) := by decide +kernel
theorem own_d3_4 : decode prog_13_method_1_code 4 = .ok (.iload_n 2, 1) := by decide +kernel
theorem own_d3_5 : decode prog_13_method_1_code 5 = .ok (.ifCond .lt 10, 3) := by decide +kernel
theorem own_d3_8 : decode prog_13_method_1_code 8 = .ok (.iload_n 2, 1) := by decide +kernel
theorem own_d3_9 : decode prog_13_method_1_code 9 = .ok (.sipush 255, 3) := by decide +kernel
theorem own_d3_12 : decode prog_13_method_1_code 12 = .ok (.if_icmp .le 17, 3) := by decide +kernel
theorem own_d3_29 : decode prog_13_method_1_code 29 = .ok (.aload_n 0, 1) := by decide +kernel
theorem own_d3_30 : decode prog_13_method_1_code 30 = .ok (.aload_n 1, 1) := by decide +kernel
theorem own_d3_31 : decode prog_13_method_1_code 31 = .ok (.putfield 18, 3) := by decide +kernel
theorem own_d3_34 : decode prog_13_method_1_code 34 = .ok (.aload_n 0, 1) := by decide +kernel
theorem own_d3_35 : decode prog_13_method_1_code 35 = .ok (.iload_n 2, 1) := by decide +kernel
theorem own_d3_36 : decode prog_13_method_1_code 36 = .ok (.putfield 22, 3) := by decide +kernel
theorem own_d3_39 : decode prog_13_method_1_code 39 = .ok (.aload_n 0, 1) := by decide +kernel
theorem own_d3_40 : decode prog_13_method_1_code 40 = .ok (.aload_n 3, 1) := by decide +kernel
theorem own_d3_41 : decode prog_13_method_1_code 41 = .ok (.putfield 26, 3) := by decide +kernel
theorem own_d3_44 : decode prog_13_method_1_code 44 = .ok (.return_, 1) := by decide +kernel
theorem own_ef3 (m : MethodId) (x0 : Addr) (x1 : Addr) (x2 : Int32) (x3 : Addr) : entryFrame m #[(.ref x0), (.ref x1), (.int x2), (.ref x3)] 4 = mkF m 0 #[.val (.ref x0), .val (.ref x1), .val (.int x2), .val (.ref x3)] [] := by first | (simp [entryFrame, mkF, argsToLocals, Value.category]; done) | rfl
def own_Q3 (Z : State) (a1 : Addr) (a2 : Addr) (p3 : Int32) (a4 : Addr) (u1 : Value) (u2 : Value) (u3 : Value) (h0 : Heap) (n0 : Nat) (v : Option Value) (h : Heap) (L : List Loc) : Prop := v = none ∧ Fr n0 L ∧ Keep h0 h [a1] ∧ Exa Z h a1 "com/example/leafcutter/leafcutter/Frame"
set_option maxRecDepth 65536 in
set_option maxHeartbeats 40000000 in
theorem rm3 (l : Launch) (Z : State) (a0 : Array Value) (hw : ∀ d ∈ tables_1, d.before a0 Z = true) (ws : List Jvm.Cond) (a1 : Addr) (a2 : Addr) (p3 : Int32) (a4 : Addr) (u1 : Value) (u2 : Value) (u3 : Value) (h0 : Heap) (n0 : Nat) (Z0 : n0 ≤ h0.size) (E_a1 : Exa Z h0 a1 "com/example/leafcutter/leafcutter/Frame") (F_mType_a1 : Fld Z h0 a1 "com/example/leafcutter/leafcutter/Frame" "mType" "Lcom/example/leafcutter/leafcutter/Frame$Type;" u1) (F_mStatus_a1 : Fld Z h0 a1 "com/example/leafcutter/leafcutter/Frame" "mStatus" "I" u2) (F_mPayload_a1 : Fld Z h0 a1 "com/example/leafcutter/leafcutter/Frame" "mPayload" "[B" u3) (g_a1 : n0 ≤ a1) (hs1 : ¬ p3 < 0) (hs2 : ¬ (255 : Int32) < p3) :
    MetFree l (⟨"com/example/leafcutter/leafcutter/Frame", "<init>", "(Lcom/example/leafcutter/leafcutter/Frame$Type;I[B)V"⟩ : MethodName) (head1 (Jvm.Cond.code (⟨"com/example/leafcutter/leafcutter/Frame", "<init>", "(Lcom/example/leafcutter/leafcutter/Frame$Type;I[B)V"⟩ : MethodName) prog_13_method_1_code 4 none :: ws) ({ frames := 1, cells := 0, slots := 0, locals := 12 } : Room)) (fun a U => a = #[(.ref a1), (.ref a2), (.int p3), (.ref a4)] ∧ Z.Warmed39 U.vm ∧ U.heap = h0) (fun _ _ _ _ _ => True) (fun _ U o U' => ∃ v L, o = .returned v ∧ own_Q3 Z a1 a2 p3 a4 u1 u2 u3 h0 n0 v U'.heap L ∧ FrameEnd U o U' L ({ frames := 1, cells := 0, slots := 0, locals := 12 } : Room).cells ({ frames := 1, cells := 0, slots := 0, locals := 12 } : Room).slots) := by
  refine MetFree.of_bodySF (plainFor_of_name own_pn3) hisR ?_
  intro p e s m args below meth c s₁ Bd hml0 hP hK
  obtain ⟨rfl, hZ, hh⟩ := hP
  have hx := Bd.exec
  have hby := Bd.bytes
  have hml : c.maxLocals = 4 := hml0
  have hown : s.vm.findClass "com/example/leafcutter/leafcutter/Frame" = some m.cls := findClass_of_methodNamed Bd.named
  have hnm := (name_of_methodNamed Bd.named Bd.method).1
  have X0 : Stand p l e ({ frames := 1, cells := 0, slots := 0, locals := 12 } : Room) s m #[(.ref a1), (.ref a2), (.int p3), (.ref a4)] below meth c s₁ [] 0 0 := Stand.of_body Bd
  have e0 : s₁.heap = h0 := by rw [← hh, Bd.state]; rfl
  have N0 := Fr.nil n0
  have pre0 : ∀ t, Steps p.tables e below (s₁.setTop (mkF m 0 #[.val (.ref a1), .val (.ref a2), .val (.int p3), .val (.ref a4)] [])) t → Steps p.tables e below (s₁.setTop (entryFrame m #[(.ref a1), (.ref a2), (.int p3), (.ref a4)] 4)) t := fun t k => castTop (own_ef3 m a1 a2 p3 a4) k
  have K0 := Keep.refl h0 [a1]
  obtain ⟨T1, X1, e1, st1⟩ := initO X0 hx hZ hown (hw _ (List.mem_of_getElem? (i := 21) rfl)) (hw _ (List.mem_of_getElem? (i := 8) rfl)) (hw _ (List.mem_of_getElem? (i := 9) rfl)) e0 (g := (mkF m 1 #[.val (.ref a1), .val (.ref a2), .val (.int p3), .val (.ref a4)] [(.ref a1)])) rfl (by rw [hml]; rfl) rfl (hb hby own_d3_1) (by decide) (W := 0) (by show 2 * 0 + _ ≤ _; exact Nat.le_of_eq rfl) (by decide)
  obtain ⟨T2, h2, X2, e2, W2, st2⟩ := putF X1 hx hZ hown (host := "") (Or.inl (hw _ (List.mem_of_getElem? (i := 22) rfl))) Via.refl e1 F_mType_a1 E_a1 (Or.inr ⟨(hw _ (List.mem_of_getElem? (i := 23) rfl)), rfl, hnm⟩) (hw _ (List.mem_of_getElem? (i := 13) rfl)) (ty := (.object "com/example/leafcutter/leafcutter/Frame$Type")) (by decide) rfl rfl (g := (mkF m 31 #[.val (.ref a1), .val (.ref a2), .val (.int p3), .val (.ref a4)] [(.ref a2), (.ref a1)])) rfl rfl (hb hby own_d3_31)
  have E_a1 := E_a1.wr W2
  have F_mStatus_a1 := F_mStatus_a1.other W2 (Or.inr (slot_ne (Or.inr (hw _ (List.mem_of_getElem? (i := 25) rfl))) (Or.inr (hw _ (List.mem_of_getElem? (i := 23) rfl))) (by decide) (t := .int) (t' := (.object "com/example/leafcutter/leafcutter/Frame$Type")) (by decide) (by decide)))
  have F_mPayload_a1 := F_mPayload_a1.other W2 (Or.inr (slot_ne (Or.inr (hw _ (List.mem_of_getElem? (i := 27) rfl))) (Or.inr (hw _ (List.mem_of_getElem? (i := 23) rfl))) (by decide) (t := (.array .byte)) (t' := (.object "com/example/leafcutter/leafcutter/Frame$Type")) (by decide) (by decide)))
  have Z2 : n0 ≤ h2.size := Nat.le_trans Z0 (Keep.of_wr W2).1
  have K2 := K0.wr W2 (Or.inl (List.mem_of_getElem? (i := 0) rfl))
  have N2 := Fr.snoc X2 N0 g_a1
  have F_mType_a1 : Fld Z h2 a1 "com/example/leafcutter/leafcutter/Frame" "mType" "Lcom/example/leafcutter/leafcutter/Frame$Type;" (.ref a2) := F_mType_a1.same W2
  obtain ⟨T3, h3, X3, e3, W3, st3⟩ := putF X2 hx hZ hown (host := "") (Or.inl (hw _ (List.mem_of_getElem? (i := 24) rfl))) Via.refl e2 F_mStatus_a1 E_a1 (Or.inr ⟨(hw _ (List.mem_of_getElem? (i := 25) rfl)), rfl, hnm⟩) (hw _ (List.mem_of_getElem? (i := 13) rfl)) (ty := .int) (by decide) rfl rfl (g := (mkF m 36 #[.val (.ref a1), .val (.ref a2), .val (.int p3), .val (.ref a4)] [(.int p3), (.ref a1)])) rfl rfl (hb hby own_d3_36)
  have E_a1 := E_a1.wr W3
  have F_mType_a1 := F_mType_a1.other W3 (Or.inr (slot_ne (Or.inr (hw _ (List.mem_of_getElem? (i := 23) rfl))) (Or.inr (hw _ (List.mem_of_getElem? (i := 25) rfl))) (by decide) (t := (.object "com/example/leafcutter/leafcutter/Frame$Type")) (t' := .int) (by decide) (by decide)))
  have F_mPayload_a1 := F_mPayload_a1.other W3 (Or.inr (slot_ne (Or.inr (hw _ (List.mem_of_getElem? (i := 27) rfl))) (Or.inr (hw _ (List.mem_of_getElem? (i := 25) rfl))) (by decide) (t := (.array .byte)) (t' := .int) (by decide) (by decide)))
  have Z3 : n0 ≤ h3.size := Nat.le_trans Z2 (Keep.of_wr W3).1
  have K3 := K2.wr W3 (Or.inl (List.mem_of_getElem? (i := 0) rfl))
  have N3 := Fr.snoc X3 N2 g_a1
  have F_mStatus_a1 : Fld Z h3 a1 "com/example/leafcutter/leafcutter/Frame" "mStatus" "I" (.int p3) := F_mStatus_a1.same W3
  obtain ⟨T4, h4, X4, e4, W4, st4⟩ := putF X3 hx hZ hown (host := "") (Or.inl (hw _ (List.mem_of_getElem? (i := 26) rfl))) Via.refl e3 F_mPayload_a1 E_a1 (Or.inr ⟨(hw _ (List.mem_of_getElem? (i := 27) rfl)), rfl, hnm⟩) (hw _ (List.mem_of_getElem? (i := 13) rfl)) (ty := (.array .byte)) (by decide) rfl rfl (g := (mkF m 41 #[.val (.ref a1), .val (.ref a2), .val (.int p3), .val (.ref a4)] [(.ref a4), (.ref a1)])) rfl rfl (hb hby own_d3_41)
  have E_a1 := E_a1.wr W4
  have F_mType_a1 := F_mType_a1.other W4 (Or.inr (slot_ne (Or.inr (hw _ (List.mem_of_getElem? (i := 23) rfl))) (Or.inr (hw _ (List.mem_of_getElem? (i := 27) rfl))) (by decide) (t := (.object "com/example/leafcutter/leafcutter/Frame$Type")) (t' := (.array .byte)) (by decide) (by decide)))
  have F_mStatus_a1 := F_mStatus_a1.other W4 (Or.inr (slot_ne (Or.inr (hw _ (List.mem_of_getElem? (i := 25) rfl))) (Or.inr (hw _ (List.mem_of_getElem? (i := 27) rfl))) (by decide) (t := .int) (t' := (.array .byte)) (by decide) (by decide)))
  have Z4 : n0 ≤ h4.size := Nat.le_trans Z3 (Keep.of_wr W4).1
  have K4 := K3.wr W4 (Or.inl (List.mem_of_getElem? (i := 0) rfl))
  have N4 := Fr.snoc X4 N3 g_a1
  have F_mPayload_a1 : Fld Z h4 a1 "com/example/leafcutter/leafcutter/Frame" "mPayload" "[B" (.ref a4) := F_mPayload_a1.same W4
  have pre5 : ∀ t, Steps p.tables e below (T4.setTop (mkF m 44 #[.val (.ref a1), .val (.ref a2), .val (.int p3), .val (.ref a4)] [])) t → Steps p.tables e below (s₁.setTop (entryFrame m #[(.ref a1), (.ref a2), (.int p3), (.ref a4)] 4)) t := by
    intro t k
    refine pre0 _ ?_
    show Steps p.tables e below (s₁.setTop (mkF m 0 #[.val (.ref a1), .val (.ref a2), .val (.int p3), .val (.ref a4)] [])) _
    refine XS.aloadN X0.here hx rfl (hb hby own_d3_0) rfl rfl ?_
    show Steps p.tables e below (s₁.setTop (mkF m 1 #[.val (.ref a1), .val (.ref a2), .val (.int p3), .val (.ref a4)] [(.ref a1)])) _
    refine st1 _ ?_
    show Steps p.tables e below (T1.setTop (mkF m 4 #[.val (.ref a1), .val (.ref a2), .val (.int p3), .val (.ref a4)] [])) _
    refine XS.iloadN X1.here hx rfl (hb hby own_d3_4) rfl ?_
    show Steps p.tables e below (T1.setTop (mkF m 5 #[.val (.ref a1), .val (.ref a2), .val (.int p3), .val (.ref a4)] [(.int p3)])) _
    refine XS.ifNo X1.here hx rfl (hb hby own_d3_5) rfl ((if0 _ _).trans (flt (hs1 : ¬ (p3 < (0 : Int32)))).1) ?_
    show Steps p.tables e below (T1.setTop (mkF m 8 #[.val (.ref a1), .val (.ref a2), .val (.int p3), .val (.ref a4)] [])) _
    refine XS.iloadN X1.here hx rfl (hb hby own_d3_8) rfl ?_
    show Steps p.tables e below (T1.setTop (mkF m 9 #[.val (.ref a1), .val (.ref a2), .val (.int p3), .val (.ref a4)] [(.int p3)])) _
    refine XS.sipush X1.here hx rfl (hb hby own_d3_9) ?_
    show Steps p.tables e below (T1.setTop (mkF m 12 #[.val (.ref a1), .val (.ref a2), .val (.int p3), .val (.ref a4)] [(.int (255 : Int32)), (.int p3)])) _
    refine XS.icmpYes X1.here hx rfl (pc0 := 12) (pc' := 29) rfl (hb hby own_d3_12) rfl (flt (hs2 : ¬ ((255 : Int32) < p3))).2.2.2 (by decide) (by decide) ?_
    show Steps p.tables e below (T1.setTop (mkF m 29 #[.val (.ref a1), .val (.ref a2), .val (.int p3), .val (.ref a4)] [])) _
    refine XS.aloadN X1.here hx rfl (hb hby own_d3_29) rfl rfl ?_
    show Steps p.tables e below (T1.setTop (mkF m 30 #[.val (.ref a1), .val (.ref a2), .val (.int p3), .val (.ref a4)] [(.ref a1)])) _
    refine XS.aloadN X1.here hx rfl (hb hby own_d3_30) rfl rfl ?_
    show Steps p.tables e below (T1.setTop (mkF m 31 #[.val (.ref a1), .val (.ref a2), .val (.int p3), .val (.ref a4)] [(.ref a2), (.ref a1)])) _
    refine st2 _ ?_
    show Steps p.tables e below (T2.setTop (mkF m 34 #[.val (.ref a1), .val (.ref a2), .val (.int p3), .val (.ref a4)] [])) _
    refine XS.aloadN X2.here hx rfl (hb hby own_d3_34) rfl rfl ?_
    show Steps p.tables e below (T2.setTop (mkF m 35 #[.val (.ref a1), .val (.ref a2), .val (.int p3), .val (.ref a4)] [(.ref a1)])) _
    refine XS.iloadN X2.here hx rfl (hb hby own_d3_35) rfl ?_
    show Steps p.tables e below (T2.setTop (mkF m 36 #[.val (.ref a1), .val (.ref a2), .val (.int p3), .val (.ref a4)] [(.int p3), (.ref a1)])) _
    refine st3 _ ?_
    show Steps p.tables e below (T3.setTop (mkF m 39 #[.val (.ref a1), .val (.ref a2), .val (.int p3), .val (.ref a4)] [])) _
    refine XS.aloadN X3.here hx rfl (hb hby own_d3_39) rfl rfl ?_
    show Steps p.tables e below (T3.setTop (mkF m 40 #[.val (.ref a1), .val (.ref a2), .val (.int p3), .val (.ref a4)] [(.ref a1)])) _
    refine XS.aloadN X3.here hx rfl (hb hby own_d3_40) rfl rfl ?_
    show Steps p.tables e below (T3.setTop (mkF m 41 #[.val (.ref a1), .val (.ref a2), .val (.int p3), .val (.ref a4)] [(.ref a4), (.ref a1)])) _
    refine st4 _ ?_
    exact k
  obtain ⟨fs, hr, hrun, hended, hW, hsame⟩ := X4.leave (v := none) (fun _ => rfl)
  refine ⟨_, _, pre5 _ ?_, hrun, hended, _, _, rfl, ?_, ⟨_, rfl⟩, hW, hsame.mono (by decide) (by decide)⟩
  · show Steps p.tables e below (T4.setTop (mkF m 44 #[.val (.ref a1), .val (.ref a2), .val (.int p3), .val (.ref a4)] [])) _
    exact X4.returnOut hx Bd.returns (hb hby own_d3_44) hr
  · show own_Q3 Z a1 a2 p3 a4 u1 u2 u3 h0 n0 _ T4.heap _
    rw [e4]
    exact ⟨rfl, N4, K4, E_a1⟩
theorem own_d1_0 : decode prog_21_method_1_code 0 = .ok (.aload_n 0, 1) := by decide +kernel
theorem own_d1_1 : decode prog_21_method_1_code 1 = .ok (.invokespecial 3, 3) := by decide +kernel
theorem own_d1_4 : decode prog_21_method_1_code 4 = .ok (.aload_n 0, 1) := by decide +kernel
theorem own_d1_5 : decode prog_21_method_1_code 5 = .ok (.aload_n 1, 1) := by decide +kernel
theorem own_d1_6 : decode prog_21_method_1_code 6 = .ok (.ifnonnull 7, 3) := by decide +kernel
theorem own_d1_9 : decode prog_21_method_1_code 9 = .ok (.aconst_null, 1) := by decide +kernel
theorem own_d1_10 : decode prog_21_method_1_code 10 = .ok (.goto 15, 3) := by decide +kernel
theorem own_d1_25 : decode prog_21_method_1_code 25 = .ok (.putfield 20, 3) := by decide +kernel
theorem own_d1_28 : decode prog_21_method_1_code 28 = .ok (.aload_n 0, 1) := by decide +kernel
theorem own_d1_29 : decode prog_21_method_1_code 29 = .ok (.new 9, 3) := by decide +kernel
theorem own_d1_32 : decode prog_21_method_1_code 32 = .ok (.dup, 1) := by decide +kernel
theorem own_d1_33 : decode prog_21_method_1_code 33 = .ok (.getstatic 26, 3) := by decide +kernel
theorem own_d1_36 : decode prog_21_method_1_code 36 = .ok (.iconst 0, 1) := by decide +kernel
theorem own_d1_37 : decode prog_21_method_1_code 37 = .ok (.aload_n 2, 1) := by decide +kernel
theorem own_d1_38 : decode prog_21_method_1_code 38 = .ok (.invokespecial 17, 3) := by decide +kernel
theorem own_d1_41 : decode prog_21_method_1_code 41 = .ok (.putfield 29, 3) := by decide +kernel
theorem own_d1_44 : decode prog_21_method_1_code 44 = .ok (.aload_n 0, 1) := by decide +kernel
theorem own_d1_45 : decode prog_21_method_1_code 45 = .ok (.aload_n 1, 1) := by decide +kernel
theorem own_d1_46 : decode prog_21_method_1_code 46 = .ok (.ifnonnull 7, 3) := by decide +kernel
theorem own_d1_49 : decode prog_21_method_1_code 49 = .ok (.iconst 0, 1) := by decide +kernel
theorem own_d1_50 : decode prog_21_method_1_code 50 = .ok (.goto 8, 3) := by decide +kernel
theorem own_d1_58 : decode prog_21_method_1_code 58 = .ok (.bipush 6, 2) := by decide +kernel
theorem own_d1_60 : decode prog_21_method_1_code 60 = .ok (.iadd, 1) := by decide +kernel
theorem own_d1_61 : decode prog_21_method_1_code 61 = .ok (.aload_n 2, 1) := by decide +kernel
theorem own_d1_62 : decode prog_21_method_1_code 62 = .ok (.arraylength, 1) := by decide +kernel
theorem own_d1_63 : decode prog_21_method_1_code 63 = .ok (.iadd, 1) := by decide +kernel
theorem own_d1_64 : decode prog_21_method_1_code 64 = .ok (.i2l, 1) := by decide +kernel
theorem own_d1_65 : decode prog_21_method_1_code 65 = .ok (.putfield 32, 3) := by decide +kernel
theorem own_d1_68 : decode prog_21_method_1_code 68 = .ok (.return_, 1) := by decide +kernel
theorem own_ef1n (m : MethodId) (x0 : Addr) (x2 : Addr) : entryFrame m #[(.ref x0), .null, (.ref x2)] 3 = mkF m 0 #[.val (.ref x0), .val .null, .val (.ref x2)] [] := by first | (simp [entryFrame, mkF, argsToLocals, Value.category]; done) | rfl
def own_Q1n (Z : State) (a1 : Addr) (a3 : Addr) (u1 : Value) (u2 : Value) (u3 : Value) (k3 : ClassId) (z3 : Int32) (t1 : Addr) (t2 : Addr) (h0 : Heap) (n0 : Nat) (v : Option Value) (h : Heap) (L : List Loc) : Prop := v = none ∧ Fr n0 L ∧ Keep h0 h [a1] ∧ Exa Z h a1 "com/example/leafcutter/leafcutter/Instance$Frames" ∧ Fld Z h a1 "com/example/leafcutter/leafcutter/Instance$Frames" "mLength" "J" (.long ((((0 : Int32) + (6 : Int32)) + z3).toInt64)) ∧ (∃ u : Value, Fld Z h a1 "com/example/leafcutter/leafcutter/Instance$Frames" "mShared" "Lcom/example/leafcutter/leafcutter/Frame;" u) ∧ (∃ u : Value, Fld Z h a1 "com/example/leafcutter/leafcutter/Instance$Frames" "mTask" "Lcom/example/leafcutter/leafcutter/Frame;" u)
set_option maxRecDepth 65536 in
set_option maxHeartbeats 40000000 in
theorem rm1n (l : Launch) (Z : State) (a0 : Array Value) (hw : ∀ d ∈ tables_1, d.before a0 Z = true) (ws : List Jvm.Cond) (a1 : Addr) (a3 : Addr) (u1 : Value) (u2 : Value) (u3 : Value) (k3 : ClassId) (z3 : Int32) (t1 : Addr) (t2 : Addr) (h0 : Heap) (n0 : Nat) (Z0 : n0 ≤ h0.size) (E_a1 : Exa Z h0 a1 "com/example/leafcutter/leafcutter/Instance$Frames") (F_mShared_a1 : Fld Z h0 a1 "com/example/leafcutter/leafcutter/Instance$Frames" "mShared" "Lcom/example/leafcutter/leafcutter/Frame;" u1) (F_mTask_a1 : Fld Z h0 a1 "com/example/leafcutter/leafcutter/Instance$Frames" "mTask" "Lcom/example/leafcutter/leafcutter/Frame;" u2) (F_mLength_a1 : Fld Z h0 a1 "com/example/leafcutter/leafcutter/Instance$Frames" "mLength" "J" u3) (g_a1 : n0 ≤ a1) (V_a3 : Arv Z h0 a3 k3 .byte z3 [] (.int (0 : Int32))) (ne_a3_a1 : a3 ≠ a1) (BS_TASK : Sta Z Z.heap "com/example/leafcutter/leafcutter/Frame$Type" "TASK" "Lcom/example/leafcutter/leafcutter/Frame$Type;" (.ref t1)) (BS_SHARED : Sta Z Z.heap "com/example/leafcutter/leafcutter/Frame$Type" "SHARED" "Lcom/example/leafcutter/leafcutter/Frame$Type;" (.ref t2)) (O0 : Old Z n0 h0) :
    MetFree l (⟨"com/example/leafcutter/leafcutter/Instance$Frames", "<init>", "([B[B)V"⟩ : MethodName) (head1 (Jvm.Cond.code (⟨"com/example/leafcutter/leafcutter/Instance$Frames", "<init>", "([B[B)V"⟩ : MethodName) prog_21_method_1_code 3 none :: ws) ({ frames := 2, cells := 1, slots := 3, locals := 29 } : Room)) (fun a U => a = #[(.ref a1), .null, (.ref a3)] ∧ Z.Warmed39 U.vm ∧ U.heap = h0) (fun _ _ _ _ _ => True) (fun _ U o U' => ∃ v L, o = .returned v ∧ own_Q1n Z a1 a3 u1 u2 u3 k3 z3 t1 t2 h0 n0 v U'.heap L ∧ FrameEnd U o U' L ({ frames := 2, cells := 1, slots := 3, locals := 29 } : Room).cells ({ frames := 2, cells := 1, slots := 3, locals := 29 } : Room).slots) := by
  refine MetFree.of_bodySF (plainFor_of_name own_pn1) hisR ?_
  intro p e s m args below meth c s₁ Bd hml0 hP hK
  obtain ⟨rfl, hZ, hh⟩ := hP
  have hx := Bd.exec
  have hby := Bd.bytes
  have hml : c.maxLocals = 3 := hml0
  have hown : s.vm.findClass "com/example/leafcutter/leafcutter/Instance$Frames" = some m.cls := findClass_of_methodNamed Bd.named
  have hnm := (name_of_methodNamed Bd.named Bd.method).1
  have X0 : Stand p l e ({ frames := 2, cells := 1, slots := 3, locals := 29 } : Room) s m #[(.ref a1), .null, (.ref a3)] below meth c s₁ [] 0 0 := Stand.of_body Bd
  have e0 : s₁.heap = h0 := by rw [← hh, Bd.state]; rfl
  have N0 := Fr.nil n0
  have pre0 : ∀ t, Steps p.tables e below (s₁.setTop (mkF m 0 #[.val (.ref a1), .val .null, .val (.ref a3)] [])) t → Steps p.tables e below (s₁.setTop (entryFrame m #[(.ref a1), .null, (.ref a3)] 3)) t := fun t k => castTop (own_ef1n m a1 a3) k
  have K0 := Keep.refl h0 [a1]
  obtain ⟨T1, X1, e1, st1⟩ := initO X0 hx hZ hown (hw _ (List.mem_of_getElem? (i := 7) rfl)) (hw _ (List.mem_of_getElem? (i := 8) rfl)) (hw _ (List.mem_of_getElem? (i := 9) rfl)) e0 (g := (mkF m 1 #[.val (.ref a1), .val .null, .val (.ref a3)] [(.ref a1)])) rfl (by rw [hml]; rfl) rfl (hb hby own_d1_1) (by decide) (W := 0) (by show 2 * 0 + _ ≤ _; exact Nat.le_of_eq rfl) (by decide)
  obtain ⟨T2, h2, X2, e2, W2, st2⟩ := putF X1 hx hZ hown (host := "") (Or.inl (hw _ (List.mem_of_getElem? (i := 10) rfl))) Via.refl e1 F_mShared_a1 E_a1 (Or.inl (hw _ (List.mem_of_getElem? (i := 11) rfl))) (hw _ (List.mem_of_getElem? (i := 2) rfl)) (ty := (.object "com/example/leafcutter/leafcutter/Frame")) (by decide) rfl rfl (g := (mkF m 25 #[.val (.ref a1), .val .null, .val (.ref a3)] [.null, (.ref a1)])) rfl rfl (hb hby own_d1_25)
  have E_a1 := E_a1.wr W2
  have F_mTask_a1 := F_mTask_a1.other W2 (Or.inr (slot_ne (Or.inl (hw _ (List.mem_of_getElem? (i := 29) rfl))) (Or.inl (hw _ (List.mem_of_getElem? (i := 11) rfl))) (by decide) (t := (.object "com/example/leafcutter/leafcutter/Frame")) (t' := (.object "com/example/leafcutter/leafcutter/Frame")) (by decide) (by decide)))
  have F_mLength_a1 := F_mLength_a1.other W2 (Or.inr (slot_ne (Or.inl (hw _ (List.mem_of_getElem? (i := 31) rfl))) (Or.inl (hw _ (List.mem_of_getElem? (i := 11) rfl))) (by decide) (t := .long) (t' := (.object "com/example/leafcutter/leafcutter/Frame")) (by decide) (by decide)))
  have V_a3 := V_a3.other W2 ne_a3_a1
  have Z2 : n0 ≤ h2.size := Nat.le_trans Z0 (Keep.of_wr W2).1
  have K2 := K0.wr W2 (Or.inl (List.mem_of_getElem? (i := 0) rfl))
  have N2 := Fr.snoc X2 N0 g_a1
  have O2o := O0.wr W2 g_a1
  have F_mShared_a1 : Fld Z h2 a1 "com/example/leafcutter/leafcutter/Instance$Frames" "mShared" "Lcom/example/leafcutter/leafcutter/Frame;" .null := F_mShared_a1.same W2
  obtain ⟨T3, h3, X3, e3, E3, A3, D3, -, st3⟩ := newO X2 hx hZ hown (hw _ (List.mem_of_getElem? (i := 12) rfl)) (hw _ (List.mem_of_getElem? (i := 13) rfl)) (hw _ (List.mem_of_getElem? (i := 14) rfl)) e2 (g := (mkF m 29 #[.val (.ref a1), .val .null, .val (.ref a3)] [(.ref a1)])) rfl (hb hby own_d1_29) (by decide) (by decide)
  obtain ⟨b3, g3⟩ : ∃ z, z = h2.size := ⟨_, rfl⟩
  rw [← g3] at A3 D3 st3
  have ne_a3_b3 : a3 ≠ b3 := Nat.ne_of_lt (Nat.lt_of_lt_of_le V_a3.lt (Nat.le_of_eq g3.symm))
  have ne_a1_b3 : a1 ≠ b3 := Nat.ne_of_lt (Nat.lt_of_lt_of_le E_a1.lt (Nat.le_of_eq g3.symm))
  have g_b3 : n0 ≤ b3 := Nat.le_trans Z2 (Nat.le_of_eq g3.symm)
  have sz_b3 : h0.size ≤ b3 := Nat.le_trans K2.1 (Nat.le_of_eq g3.symm)
  have E_a1 := E_a1.ext E3
  have F_mShared_a1 := F_mShared_a1.ext E3
  have F_mTask_a1 := F_mTask_a1.ext E3
  have F_mLength_a1 := F_mLength_a1.ext E3
  have V_a3 := V_a3.ext E3
  have Z3 : n0 ≤ h3.size := Nat.le_trans Z2 E3.1
  have K3 := K2.ext E3
  have O3o := O2o.ext E3
  have E_b3 : Exa Z h3 b3 "com/example/leafcutter/leafcutter/Frame" := A3
  have F_mType_b3 : Fld Z h3 b3 "com/example/leafcutter/leafcutter/Frame" "mType" "Lcom/example/leafcutter/leafcutter/Frame$Type;" .null := D3 (Or.inr (hw _ (List.mem_of_getElem? (i := 23) rfl))) (ty := (.object "com/example/leafcutter/leafcutter/Frame$Type")) (by decide)
  have F_mStatus_b3 : Fld Z h3 b3 "com/example/leafcutter/leafcutter/Frame" "mStatus" "I" (.int (0 : Int32)) := D3 (Or.inr (hw _ (List.mem_of_getElem? (i := 25) rfl))) (ty := .int) (by decide)
  have F_mPayload_b3 : Fld Z h3 b3 "com/example/leafcutter/leafcutter/Frame" "mPayload" "[B" .null := D3 (Or.inr (hw _ (List.mem_of_getElem? (i := 27) rfl))) (ty := (.array .byte)) (by decide)
  obtain ⟨T4, X4, e4, st4⟩ := getS2 X3 hx hZ hown (host := "") (Or.inl (hw _ (List.mem_of_getElem? (i := 15) rfl))) Via.refl e3 (BS_TASK.ext O3o.2) (g := (mkF m 33 #[.val (.ref a1), .val .null, .val (.ref a3)] [(.ref b3), (.ref b3), (.ref a1)])) rfl (hb hby own_d1_33)
  obtain ⟨_, _, ⟨T5, L5, k5, n5⟩, -, X5, ⟨Lc5, hQ5, l5, y5, z5⟩, st5⟩ := X4.specialBack hx (y := (⟨"com/example/leafcutter/leafcutter/Frame", "<init>", "(Lcom/example/leafcutter/leafcutter/Frame$Type;I[B)V"⟩ : MethodName)) rfl hown (mvT hZ (hw _ (List.mem_of_getElem? (i := 18) rfl))) (mvT hZ (hw _ (List.mem_of_getElem? (i := 19) rfl))) (mvT hZ (hw _ (List.mem_of_getElem? (i := 20) rfl))) (by decide) (backOf (W := 2) (rm3 l Z a0 hw [] b3 t1 (0 : Int32) a3 .null ((.int (0 : Int32))) .null h3 n0 Z3 E_b3 F_mType_b3 F_mStatus_b3 F_mPayload_b3 g_b3 (by decide) (by decide)) hZ (hw _ (List.mem_of_getElem? (i := 20) rfl)) (hw _ (List.mem_of_getElem? (i := 14) rfl)) (by decide) (by decide)) (g := (mkF m 38 #[.val (.ref a1), .val .null, .val (.ref a3)] [(.ref a3), (.int (0 : Int32)), (.ref t1), (.ref b3), (.ref b3), (.ref a1)])) rfl (by rw [hml]; rfl) (Steps.refl _) (a := b3) (argsL := [(.ref t1), (.int (0 : Int32)), (.ref a3)]) (rest := [(.ref b3), (.ref a1)]) (lenOf own_pd0 rfl) rfl (by show 2 * 0 + _ ≤ _; exact Nat.le_of_eq rfl) (hb hby own_d1_38) (fun _ _ => ⟨rfl, e4, (by decide : 1 + 0 ≤ _), (by decide : 3 + 0 ≤ _)⟩)
  dsimp only [Pt.U, Pt.locs, Pt.cells, Pt.slots] at X5 l5 y5 z5 st5 hQ5
  subst l5 y5 z5
  obtain ⟨rfl, N5q, Kq5, P5_0⟩ := hQ5
  have N5 := Fr.app N2 N5q
  have O5o := O3o.keep Kq5 (allS g_b3 all0)
  have E_a1 := E_a1.keep Kq5
  have F_mShared_a1 := F_mShared_a1.keep Kq5 (ninS ne_a1_b3 nin0)
  have F_mTask_a1 := F_mTask_a1.keep Kq5 (ninS ne_a1_b3 nin0)
  have F_mLength_a1 := F_mLength_a1.keep Kq5 (ninS ne_a1_b3 nin0)
  have V_a3 := V_a3.keep Kq5 (ninS ne_a3_b3 nin0)
  have E_b3 := P5_0
  have Z5 : n0 ≤ T5.heap.size := Nat.le_trans Z3 Kq5.1
  have K5 := K3.trans Kq5 (allS (Or.inr sz_b3) all0)
  obtain ⟨T6, h6, X6, e6, W6, st6⟩ := putF X5 hx hZ hown (host := "") (Or.inl (hw _ (List.mem_of_getElem? (i := 28) rfl))) Via.refl rfl F_mTask_a1 E_a1 (Or.inl (hw _ (List.mem_of_getElem? (i := 29) rfl))) (hw _ (List.mem_of_getElem? (i := 2) rfl)) (ty := (.object "com/example/leafcutter/leafcutter/Frame")) (by decide) rfl rfl (g := (mkF m 41 #[.val (.ref a1), .val .null, .val (.ref a3)] [(.ref b3), (.ref a1)])) rfl rfl (hb hby own_d1_41)
  have E_a1 := E_a1.wr W6
  have F_mShared_a1 := F_mShared_a1.other W6 (Or.inr (slot_ne (Or.inl (hw _ (List.mem_of_getElem? (i := 11) rfl))) (Or.inl (hw _ (List.mem_of_getElem? (i := 29) rfl))) (by decide) (t := (.object "com/example/leafcutter/leafcutter/Frame")) (t' := (.object "com/example/leafcutter/leafcutter/Frame")) (by decide) (by decide)))
  have F_mLength_a1 := F_mLength_a1.other W6 (Or.inr (slot_ne (Or.inl (hw _ (List.mem_of_getElem? (i := 31) rfl))) (Or.inl (hw _ (List.mem_of_getElem? (i := 29) rfl))) (by decide) (t := .long) (t' := (.object "com/example/leafcutter/leafcutter/Frame")) (by decide) (by decide)))
  have V_a3 := V_a3.other W6 ne_a3_a1
  have E_b3 := E_b3.wr W6
  have Z6 : n0 ≤ h6.size := Nat.le_trans Z5 (Keep.of_wr W6).1
  have K6 := K5.wr W6 (Or.inl (List.mem_of_getElem? (i := 0) rfl))
  have N6 := Fr.snoc X6 N5 g_a1
  have O6o := O5o.wr W6 g_a1
  have F_mTask_a1 : Fld Z h6 a1 "com/example/leafcutter/leafcutter/Instance$Frames" "mTask" "Lcom/example/leafcutter/leafcutter/Frame;" (.ref b3) := F_mTask_a1.same W6
  obtain ⟨cl_a3, Ar_a3, -, S_a3, N_a3, -, -⟩ := id V_a3
  obtain ⟨T7, h7, X7, e7, W7, st7⟩ := putF X6 hx hZ hown (host := "") (Or.inl (hw _ (List.mem_of_getElem? (i := 30) rfl))) Via.refl e6 F_mLength_a1 E_a1 (Or.inl (hw _ (List.mem_of_getElem? (i := 31) rfl))) (hw _ (List.mem_of_getElem? (i := 2) rfl)) (ty := .long) (by decide) rfl rfl (g := (mkF m 65 #[.val (.ref a1), .val .null, .val (.ref a3)] [(.long ((((0 : Int32) + (6 : Int32)) + z3).toInt64)), (.ref a1)])) rfl rfl (hb hby own_d1_65)
  have E_a1 := E_a1.wr W7
  have F_mShared_a1 := F_mShared_a1.other W7 (Or.inr (slot_ne (Or.inl (hw _ (List.mem_of_getElem? (i := 11) rfl))) (Or.inl (hw _ (List.mem_of_getElem? (i := 31) rfl))) (by decide) (t := (.object "com/example/leafcutter/leafcutter/Frame")) (t' := .long) (by decide) (by decide)))
  have F_mTask_a1 := F_mTask_a1.other W7 (Or.inr (slot_ne (Or.inl (hw _ (List.mem_of_getElem? (i := 29) rfl))) (Or.inl (hw _ (List.mem_of_getElem? (i := 31) rfl))) (by decide) (t := (.object "com/example/leafcutter/leafcutter/Frame")) (t' := .long) (by decide) (by decide)))
  have V_a3 := V_a3.other W7 ne_a3_a1
  have E_b3 := E_b3.wr W7
  have Z7 : n0 ≤ h7.size := Nat.le_trans Z6 (Keep.of_wr W7).1
  have K7 := K6.wr W7 (Or.inl (List.mem_of_getElem? (i := 0) rfl))
  have N7 := Fr.snoc X7 N6 g_a1
  have O7o := O6o.wr W7 g_a1
  have F_mLength_a1 : Fld Z h7 a1 "com/example/leafcutter/leafcutter/Instance$Frames" "mLength" "J" (.long ((((0 : Int32) + (6 : Int32)) + z3).toInt64)) := F_mLength_a1.same W7
  have pre8 : ∀ t, Steps p.tables e below (T7.setTop (mkF m 68 #[.val (.ref a1), .val .null, .val (.ref a3)] [])) t → Steps p.tables e below (s₁.setTop (entryFrame m #[(.ref a1), .null, (.ref a3)] 3)) t := by
    intro t k
    refine pre0 _ ?_
    show Steps p.tables e below (s₁.setTop (mkF m 0 #[.val (.ref a1), .val .null, .val (.ref a3)] [])) _
    refine XS.aloadN X0.here hx rfl (hb hby own_d1_0) rfl rfl ?_
    show Steps p.tables e below (s₁.setTop (mkF m 1 #[.val (.ref a1), .val .null, .val (.ref a3)] [(.ref a1)])) _
    refine st1 _ ?_
    show Steps p.tables e below (T1.setTop (mkF m 4 #[.val (.ref a1), .val .null, .val (.ref a3)] [])) _
    refine XS.aloadN X1.here hx rfl (hb hby own_d1_4) rfl rfl ?_
    show Steps p.tables e below (T1.setTop (mkF m 5 #[.val (.ref a1), .val .null, .val (.ref a3)] [(.ref a1)])) _
    refine XS.aloadN X1.here hx rfl (hb hby own_d1_5) rfl rfl ?_
    show Steps p.tables e below (T1.setTop (mkF m 6 #[.val (.ref a1), .val .null, .val (.ref a3)] [.null, (.ref a1)])) _
    refine XS.ifnonnullNo X1.here hx rfl (hb hby own_d1_6) rfl ?_
    show Steps p.tables e below (T1.setTop (mkF m 9 #[.val (.ref a1), .val .null, .val (.ref a3)] [(.ref a1)])) _
    refine XS.aconstNull X1.here hx rfl (hb hby own_d1_9) ?_
    show Steps p.tables e below (T1.setTop (mkF m 10 #[.val (.ref a1), .val .null, .val (.ref a3)] [.null, (.ref a1)])) _
    refine XS.goto X1.here hx rfl (pc0 := 10) (pc' := 25) rfl (hb hby own_d1_10) (by decide) (by decide) ?_
    show Steps p.tables e below (T1.setTop (mkF m 25 #[.val (.ref a1), .val .null, .val (.ref a3)] [.null, (.ref a1)])) _
    refine st2 _ ?_
    show Steps p.tables e below (T2.setTop (mkF m 28 #[.val (.ref a1), .val .null, .val (.ref a3)] [])) _
    refine XS.aloadN X2.here hx rfl (hb hby own_d1_28) rfl rfl ?_
    show Steps p.tables e below (T2.setTop (mkF m 29 #[.val (.ref a1), .val .null, .val (.ref a3)] [(.ref a1)])) _
    refine st3 _ ?_
    show Steps p.tables e below (T3.setTop (mkF m 32 #[.val (.ref a1), .val .null, .val (.ref a3)] [(.ref b3), (.ref a1)])) _
    refine XS.dup X3.here hx rfl (hb hby own_d1_32) rfl rfl ?_
    show Steps p.tables e below (T3.setTop (mkF m 33 #[.val (.ref a1), .val .null, .val (.ref a3)] [(.ref b3), (.ref b3), (.ref a1)])) _
    refine st4 _ ?_
    show Steps p.tables e below (T4.setTop (mkF m 36 #[.val (.ref a1), .val .null, .val (.ref a3)] [(.ref t1), (.ref b3), (.ref b3), (.ref a1)])) _
    refine XS.iconst X4.here hx rfl (hb hby own_d1_36) ?_
    show Steps p.tables e below (T4.setTop (mkF m 37 #[.val (.ref a1), .val .null, .val (.ref a3)] [(.int (0 : Int32)), (.ref t1), (.ref b3), (.ref b3), (.ref a1)])) _
    refine XS.aloadN X4.here hx rfl (hb hby own_d1_37) rfl rfl ?_
    show Steps p.tables e below (T4.setTop (mkF m 38 #[.val (.ref a1), .val .null, .val (.ref a3)] [(.ref a3), (.int (0 : Int32)), (.ref t1), (.ref b3), (.ref b3), (.ref a1)])) _
    refine st5.trans ?_
    show Steps p.tables e below (T5.setTop (mkF m 41 #[.val (.ref a1), .val .null, .val (.ref a3)] [(.ref b3), (.ref a1)])) _
    refine st6 _ ?_
    show Steps p.tables e below (T6.setTop (mkF m 44 #[.val (.ref a1), .val .null, .val (.ref a3)] [])) _
    refine XS.aloadN X6.here hx rfl (hb hby own_d1_44) rfl rfl ?_
    show Steps p.tables e below (T6.setTop (mkF m 45 #[.val (.ref a1), .val .null, .val (.ref a3)] [(.ref a1)])) _
    refine XS.aloadN X6.here hx rfl (hb hby own_d1_45) rfl rfl ?_
    show Steps p.tables e below (T6.setTop (mkF m 46 #[.val (.ref a1), .val .null, .val (.ref a3)] [.null, (.ref a1)])) _
    refine XS.ifnonnullNo X6.here hx rfl (hb hby own_d1_46) rfl ?_
    show Steps p.tables e below (T6.setTop (mkF m 49 #[.val (.ref a1), .val .null, .val (.ref a3)] [(.ref a1)])) _
    refine XS.iconst X6.here hx rfl (hb hby own_d1_49) ?_
    show Steps p.tables e below (T6.setTop (mkF m 50 #[.val (.ref a1), .val .null, .val (.ref a3)] [(.int (0 : Int32)), (.ref a1)])) _
    refine XS.goto X6.here hx rfl (pc0 := 50) (pc' := 58) rfl (hb hby own_d1_50) (by decide) (by decide) ?_
    show Steps p.tables e below (T6.setTop (mkF m 58 #[.val (.ref a1), .val .null, .val (.ref a3)] [(.int (0 : Int32)), (.ref a1)])) _
    refine XS.bipush X6.here hx rfl (hb hby own_d1_58) ?_
    show Steps p.tables e below (T6.setTop (mkF m 60 #[.val (.ref a1), .val .null, .val (.ref a3)] [(.int (6 : Int32)), (.int (0 : Int32)), (.ref a1)])) _
    refine XS.iadd X6.here hx rfl (hb hby own_d1_60) rfl ?_
    show Steps p.tables e below (T6.setTop (mkF m 61 #[.val (.ref a1), .val .null, .val (.ref a3)] [(.int ((0 : Int32) + (6 : Int32))), (.ref a1)])) _
    refine XS.aloadN X6.here hx rfl (hb hby own_d1_61) rfl rfl ?_
    show Steps p.tables e below (T6.setTop (mkF m 62 #[.val (.ref a1), .val .null, .val (.ref a3)] [(.ref a3), (.int ((0 : Int32) + (6 : Int32))), (.ref a1)])) _
    refine X6.arraylength hx (by rw [e6]; exact Ar_a3.1) (State.isArrayOf_alike hZ.alike Ar_a3.2.1) (g := (mkF m 62 #[.val (.ref a1), .val .null, .val (.ref a3)] [(.ref a3), (.int ((0 : Int32) + (6 : Int32))), (.ref a1)])) rfl rfl (hb hby own_d1_62) _ ?_
    rw [len_of S_a3 N_a3]
    show Steps p.tables e below (T6.setTop (mkF m 63 #[.val (.ref a1), .val .null, .val (.ref a3)] [(.int z3), (.int ((0 : Int32) + (6 : Int32))), (.ref a1)])) _
    refine XS.iadd X6.here hx rfl (hb hby own_d1_63) rfl ?_
    show Steps p.tables e below (T6.setTop (mkF m 64 #[.val (.ref a1), .val .null, .val (.ref a3)] [(.int (((0 : Int32) + (6 : Int32)) + z3)), (.ref a1)])) _
    refine XS.i2l X6.here hx rfl (hb hby own_d1_64) rfl ?_
    show Steps p.tables e below (T6.setTop (mkF m 65 #[.val (.ref a1), .val .null, .val (.ref a3)] [(.long ((((0 : Int32) + (6 : Int32)) + z3).toInt64)), (.ref a1)])) _
    refine st7 _ ?_
    exact k
  obtain ⟨fs, hr, hrun, hended, hW, hsame⟩ := X7.leave (v := none) (fun _ => rfl)
  refine ⟨_, _, pre8 _ ?_, hrun, hended, _, _, rfl, ?_, ⟨_, rfl⟩, hW, hsame.mono (by decide) (by decide)⟩
  · show Steps p.tables e below (T7.setTop (mkF m 68 #[.val (.ref a1), .val .null, .val (.ref a3)] [])) _
    exact X7.returnOut hx Bd.returns (hb hby own_d1_68) hr
  · show own_Q1n Z a1 a3 u1 u2 u3 k3 z3 t1 t2 h0 n0 _ T7.heap _
    rw [e7]
    exact ⟨rfl, N7, K7, E_a1, F_mLength_a1, ⟨_, F_mShared_a1⟩, ⟨_, F_mTask_a1⟩⟩
theorem own_d1_13 : decode prog_21_method_1_code 13 = .ok (.new 9, 3) := by decide +kernel
theorem own_d1_16 : decode prog_21_method_1_code 16 = .ok (.dup, 1) := by decide +kernel
theorem own_d1_17 : decode prog_21_method_1_code 17 = .ok (.getstatic 11, 3) := by decide +kernel
theorem own_d1_20 : decode prog_21_method_1_code 20 = .ok (.iconst 0, 1) := by decide +kernel
theorem own_d1_21 : decode prog_21_method_1_code 21 = .ok (.aload_n 1, 1) := by decide +kernel
theorem own_d1_22 : decode prog_21_method_1_code 22 = .ok (.invokespecial 17, 3) := by decide +kernel
theorem own_d1_53 : decode prog_21_method_1_code 53 = .ok (.bipush 6, 2) := by decide +kernel
theorem own_d1_55 : decode prog_21_method_1_code 55 = .ok (.aload_n 1, 1) := by decide +kernel
theorem own_d1_56 : decode prog_21_method_1_code 56 = .ok (.arraylength, 1) := by decide +kernel
theorem own_d1_57 : decode prog_21_method_1_code 57 = .ok (.iadd, 1) := by decide +kernel
theorem own_ef1 (m : MethodId) (x0 : Addr) (x1 : Addr) (x2 : Addr) : entryFrame m #[(.ref x0), (.ref x1), (.ref x2)] 3 = mkF m 0 #[.val (.ref x0), .val (.ref x1), .val (.ref x2)] [] := by first | (simp [entryFrame, mkF, argsToLocals, Value.category]; done) | rfl
def own_Q1 (Z : State) (a1 : Addr) (a2 : Addr) (a3 : Addr) (u1 : Value) (u2 : Value) (u3 : Value) (k2 : ClassId) (z2 : Int32) (k3 : ClassId) (z3 : Int32) (t1 : Addr) (t2 : Addr) (h0 : Heap) (n0 : Nat) (v : Option Value) (h : Heap) (L : List Loc) : Prop := v = none ∧ Fr n0 L ∧ Keep h0 h [a1] ∧ Exa Z h a1 "com/example/leafcutter/leafcutter/Instance$Frames" ∧ Fld Z h a1 "com/example/leafcutter/leafcutter/Instance$Frames" "mLength" "J" (.long (((((6 : Int32) + z2) + (6 : Int32)) + z3).toInt64)) ∧ (∃ u : Value, Fld Z h a1 "com/example/leafcutter/leafcutter/Instance$Frames" "mShared" "Lcom/example/leafcutter/leafcutter/Frame;" u) ∧ (∃ u : Value, Fld Z h a1 "com/example/leafcutter/leafcutter/Instance$Frames" "mTask" "Lcom/example/leafcutter/leafcutter/Frame;" u)
set_option maxRecDepth 65536 in
set_option maxHeartbeats 40000000 in
theorem rm1 (l : Launch) (Z : State) (a0 : Array Value) (hw : ∀ d ∈ tables_1, d.before a0 Z = true) (ws : List Jvm.Cond) (a1 : Addr) (a2 : Addr) (a3 : Addr) (u1 : Value) (u2 : Value) (u3 : Value) (k2 : ClassId) (z2 : Int32) (k3 : ClassId) (z3 : Int32) (t1 : Addr) (t2 : Addr) (h0 : Heap) (n0 : Nat) (Z0 : n0 ≤ h0.size) (E_a1 : Exa Z h0 a1 "com/example/leafcutter/leafcutter/Instance$Frames") (F_mShared_a1 : Fld Z h0 a1 "com/example/leafcutter/leafcutter/Instance$Frames" "mShared" "Lcom/example/leafcutter/leafcutter/Frame;" u1) (F_mTask_a1 : Fld Z h0 a1 "com/example/leafcutter/leafcutter/Instance$Frames" "mTask" "Lcom/example/leafcutter/leafcutter/Frame;" u2) (F_mLength_a1 : Fld Z h0 a1 "com/example/leafcutter/leafcutter/Instance$Frames" "mLength" "J" u3) (g_a1 : n0 ≤ a1) (V_a2 : Arv Z h0 a2 k2 .byte z2 [] (.int (0 : Int32))) (V_a3 : Arv Z h0 a3 k3 .byte z3 [] (.int (0 : Int32))) (ne_a2_a1 : a2 ≠ a1) (ne_a3_a1 : a3 ≠ a1) (BS_TASK : Sta Z Z.heap "com/example/leafcutter/leafcutter/Frame$Type" "TASK" "Lcom/example/leafcutter/leafcutter/Frame$Type;" (.ref t1)) (BS_SHARED : Sta Z Z.heap "com/example/leafcutter/leafcutter/Frame$Type" "SHARED" "Lcom/example/leafcutter/leafcutter/Frame$Type;" (.ref t2)) (O0 : Old Z n0 h0) :
    MetFree l (⟨"com/example/leafcutter/leafcutter/Instance$Frames", "<init>", "([B[B)V"⟩ : MethodName) (head1 (Jvm.Cond.code (⟨"com/example/leafcutter/leafcutter/Instance$Frames", "<init>", "([B[B)V"⟩ : MethodName) prog_21_method_1_code 3 none :: ws) ({ frames := 2, cells := 2, slots := 6, locals := 29 } : Room)) (fun a U => a = #[(.ref a1), (.ref a2), (.ref a3)] ∧ Z.Warmed39 U.vm ∧ U.heap = h0) (fun _ _ _ _ _ => True) (fun _ U o U' => ∃ v L, o = .returned v ∧ own_Q1 Z a1 a2 a3 u1 u2 u3 k2 z2 k3 z3 t1 t2 h0 n0 v U'.heap L ∧ FrameEnd U o U' L ({ frames := 2, cells := 2, slots := 6, locals := 29 } : Room).cells ({ frames := 2, cells := 2, slots := 6, locals := 29 } : Room).slots) := by
  refine MetFree.of_bodySF (plainFor_of_name own_pn1) hisR ?_
  intro p e s m args below meth c s₁ Bd hml0 hP hK
  obtain ⟨rfl, hZ, hh⟩ := hP
  have hx := Bd.exec
  have hby := Bd.bytes
  have hml : c.maxLocals = 3 := hml0
  have hown : s.vm.findClass "com/example/leafcutter/leafcutter/Instance$Frames" = some m.cls := findClass_of_methodNamed Bd.named
  have hnm := (name_of_methodNamed Bd.named Bd.method).1
  have X0 : Stand p l e ({ frames := 2, cells := 2, slots := 6, locals := 29 } : Room) s m #[(.ref a1), (.ref a2), (.ref a3)] below meth c s₁ [] 0 0 := Stand.of_body Bd
  have e0 : s₁.heap = h0 := by rw [← hh, Bd.state]; rfl
  have N0 := Fr.nil n0
  have pre0 : ∀ t, Steps p.tables e below (s₁.setTop (mkF m 0 #[.val (.ref a1), .val (.ref a2), .val (.ref a3)] [])) t → Steps p.tables e below (s₁.setTop (entryFrame m #[(.ref a1), (.ref a2), (.ref a3)] 3)) t := fun t k => castTop (own_ef1 m a1 a2 a3) k
  have K0 := Keep.refl h0 [a1]
  obtain ⟨T1, X1, e1, st1⟩ := initO X0 hx hZ hown (hw _ (List.mem_of_getElem? (i := 7) rfl)) (hw _ (List.mem_of_getElem? (i := 8) rfl)) (hw _ (List.mem_of_getElem? (i := 9) rfl)) e0 (g := (mkF m 1 #[.val (.ref a1), .val (.ref a2), .val (.ref a3)] [(.ref a1)])) rfl (by rw [hml]; rfl) rfl (hb hby own_d1_1) (by decide) (W := 0) (by show 2 * 0 + _ ≤ _; exact Nat.le_of_eq rfl) (by decide)
  obtain ⟨T2, h2, X2, e2, E2, A2, D2, -, st2⟩ := newO X1 hx hZ hown (hw _ (List.mem_of_getElem? (i := 12) rfl)) (hw _ (List.mem_of_getElem? (i := 13) rfl)) (hw _ (List.mem_of_getElem? (i := 14) rfl)) e1 (g := (mkF m 13 #[.val (.ref a1), .val (.ref a2), .val (.ref a3)] [(.ref a1)])) rfl (hb hby own_d1_13) (by decide) (by decide)
  obtain ⟨b2, g2⟩ : ∃ z, z = h0.size := ⟨_, rfl⟩
  rw [← g2] at A2 D2 st2
  have ne_a3_b2 : a3 ≠ b2 := Nat.ne_of_lt (Nat.lt_of_lt_of_le V_a3.lt (Nat.le_of_eq g2.symm))
  have ne_a1_b2 : a1 ≠ b2 := Nat.ne_of_lt (Nat.lt_of_lt_of_le E_a1.lt (Nat.le_of_eq g2.symm))
  have ne_a2_b2 : a2 ≠ b2 := Nat.ne_of_lt (Nat.lt_of_lt_of_le V_a2.lt (Nat.le_of_eq g2.symm))
  have g_b2 : n0 ≤ b2 := Nat.le_trans Z0 (Nat.le_of_eq g2.symm)
  have sz_b2 : h0.size ≤ b2 := Nat.le_trans K0.1 (Nat.le_of_eq g2.symm)
  have E_a1 := E_a1.ext E2
  have F_mShared_a1 := F_mShared_a1.ext E2
  have F_mTask_a1 := F_mTask_a1.ext E2
  have F_mLength_a1 := F_mLength_a1.ext E2
  have V_a2 := V_a2.ext E2
  have V_a3 := V_a3.ext E2
  have Z2 : n0 ≤ h2.size := Nat.le_trans Z0 E2.1
  have K2 := K0.ext E2
  have O2o := O0.ext E2
  have E_b2 : Exa Z h2 b2 "com/example/leafcutter/leafcutter/Frame" := A2
  have F_mType_b2 : Fld Z h2 b2 "com/example/leafcutter/leafcutter/Frame" "mType" "Lcom/example/leafcutter/leafcutter/Frame$Type;" .null := D2 (Or.inr (hw _ (List.mem_of_getElem? (i := 23) rfl))) (ty := (.object "com/example/leafcutter/leafcutter/Frame$Type")) (by decide)
  have F_mStatus_b2 : Fld Z h2 b2 "com/example/leafcutter/leafcutter/Frame" "mStatus" "I" (.int (0 : Int32)) := D2 (Or.inr (hw _ (List.mem_of_getElem? (i := 25) rfl))) (ty := .int) (by decide)
  have F_mPayload_b2 : Fld Z h2 b2 "com/example/leafcutter/leafcutter/Frame" "mPayload" "[B" .null := D2 (Or.inr (hw _ (List.mem_of_getElem? (i := 27) rfl))) (ty := (.array .byte)) (by decide)
  obtain ⟨T3, X3, e3, st3⟩ := getS2 X2 hx hZ hown (host := "") (Or.inl (hw _ (List.mem_of_getElem? (i := 45) rfl))) Via.refl e2 (BS_SHARED.ext O2o.2) (g := (mkF m 17 #[.val (.ref a1), .val (.ref a2), .val (.ref a3)] [(.ref b2), (.ref b2), (.ref a1)])) rfl (hb hby own_d1_17)
  obtain ⟨_, _, ⟨T4, L4, k4, n4⟩, -, X4, ⟨Lc4, hQ4, l4, y4, z4⟩, st4⟩ := X3.specialBack hx (y := (⟨"com/example/leafcutter/leafcutter/Frame", "<init>", "(Lcom/example/leafcutter/leafcutter/Frame$Type;I[B)V"⟩ : MethodName)) rfl hown (mvT hZ (hw _ (List.mem_of_getElem? (i := 18) rfl))) (mvT hZ (hw _ (List.mem_of_getElem? (i := 19) rfl))) (mvT hZ (hw _ (List.mem_of_getElem? (i := 20) rfl))) (by decide) (backOf (W := 2) (rm3 l Z a0 hw [] b2 t2 (0 : Int32) a2 .null ((.int (0 : Int32))) .null h2 n0 Z2 E_b2 F_mType_b2 F_mStatus_b2 F_mPayload_b2 g_b2 (by decide) (by decide)) hZ (hw _ (List.mem_of_getElem? (i := 20) rfl)) (hw _ (List.mem_of_getElem? (i := 14) rfl)) (by decide) (by decide)) (g := (mkF m 22 #[.val (.ref a1), .val (.ref a2), .val (.ref a3)] [(.ref a2), (.int (0 : Int32)), (.ref t2), (.ref b2), (.ref b2), (.ref a1)])) rfl (by rw [hml]; rfl) (Steps.refl _) (a := b2) (argsL := [(.ref t2), (.int (0 : Int32)), (.ref a2)]) (rest := [(.ref b2), (.ref a1)]) (lenOf own_pd0 rfl) rfl (by show 2 * 0 + _ ≤ _; exact Nat.le_of_eq rfl) (hb hby own_d1_22) (fun _ _ => ⟨rfl, e3, (by decide : 1 + 0 ≤ _), (by decide : 3 + 0 ≤ _)⟩)
  dsimp only [Pt.U, Pt.locs, Pt.cells, Pt.slots] at X4 l4 y4 z4 st4 hQ4
  subst l4 y4 z4
  obtain ⟨rfl, N4q, Kq4, P4_0⟩ := hQ4
  have N4 := Fr.app N0 N4q
  have O4o := O2o.keep Kq4 (allS g_b2 all0)
  have E_a1 := E_a1.keep Kq4
  have F_mShared_a1 := F_mShared_a1.keep Kq4 (ninS ne_a1_b2 nin0)
  have F_mTask_a1 := F_mTask_a1.keep Kq4 (ninS ne_a1_b2 nin0)
  have F_mLength_a1 := F_mLength_a1.keep Kq4 (ninS ne_a1_b2 nin0)
  have V_a2 := V_a2.keep Kq4 (ninS ne_a2_b2 nin0)
  have V_a3 := V_a3.keep Kq4 (ninS ne_a3_b2 nin0)
  have E_b2 := P4_0
  have Z4 : n0 ≤ T4.heap.size := Nat.le_trans Z2 Kq4.1
  have K4 := K2.trans Kq4 (allS (Or.inr sz_b2) all0)
  obtain ⟨T5, h5, X5, e5, W5, st5⟩ := putF X4 hx hZ hown (host := "") (Or.inl (hw _ (List.mem_of_getElem? (i := 10) rfl))) Via.refl rfl F_mShared_a1 E_a1 (Or.inl (hw _ (List.mem_of_getElem? (i := 11) rfl))) (hw _ (List.mem_of_getElem? (i := 2) rfl)) (ty := (.object "com/example/leafcutter/leafcutter/Frame")) (by decide) rfl rfl (g := (mkF m 25 #[.val (.ref a1), .val (.ref a2), .val (.ref a3)] [(.ref b2), (.ref a1)])) rfl rfl (hb hby own_d1_25)
  have E_a1 := E_a1.wr W5
  have F_mTask_a1 := F_mTask_a1.other W5 (Or.inr (slot_ne (Or.inl (hw _ (List.mem_of_getElem? (i := 29) rfl))) (Or.inl (hw _ (List.mem_of_getElem? (i := 11) rfl))) (by decide) (t := (.object "com/example/leafcutter/leafcutter/Frame")) (t' := (.object "com/example/leafcutter/leafcutter/Frame")) (by decide) (by decide)))
  have F_mLength_a1 := F_mLength_a1.other W5 (Or.inr (slot_ne (Or.inl (hw _ (List.mem_of_getElem? (i := 31) rfl))) (Or.inl (hw _ (List.mem_of_getElem? (i := 11) rfl))) (by decide) (t := .long) (t' := (.object "com/example/leafcutter/leafcutter/Frame")) (by decide) (by decide)))
  have V_a2 := V_a2.other W5 ne_a2_a1
  have V_a3 := V_a3.other W5 ne_a3_a1
  have E_b2 := E_b2.wr W5
  have Z5 : n0 ≤ h5.size := Nat.le_trans Z4 (Keep.of_wr W5).1
  have K5 := K4.wr W5 (Or.inl (List.mem_of_getElem? (i := 0) rfl))
  have N5 := Fr.snoc X5 N4 g_a1
  have O5o := O4o.wr W5 g_a1
  have F_mShared_a1 : Fld Z h5 a1 "com/example/leafcutter/leafcutter/Instance$Frames" "mShared" "Lcom/example/leafcutter/leafcutter/Frame;" (.ref b2) := F_mShared_a1.same W5
  obtain ⟨T6, h6, X6, e6, E6, A6, D6, -, st6⟩ := newO X5 hx hZ hown (hw _ (List.mem_of_getElem? (i := 12) rfl)) (hw _ (List.mem_of_getElem? (i := 13) rfl)) (hw _ (List.mem_of_getElem? (i := 14) rfl)) e5 (g := (mkF m 29 #[.val (.ref a1), .val (.ref a2), .val (.ref a3)] [(.ref a1)])) rfl (hb hby own_d1_29) (by decide) (by decide)
  obtain ⟨b6, g6⟩ : ∃ z, z = h5.size := ⟨_, rfl⟩
  rw [← g6] at A6 D6 st6
  have ne_a3_b6 : a3 ≠ b6 := Nat.ne_of_lt (Nat.lt_of_lt_of_le V_a3.lt (Nat.le_of_eq g6.symm))
  have ne_b2_b6 : b2 ≠ b6 := Nat.ne_of_lt (Nat.lt_of_lt_of_le E_b2.lt (Nat.le_of_eq g6.symm))
  have ne_a1_b6 : a1 ≠ b6 := Nat.ne_of_lt (Nat.lt_of_lt_of_le E_a1.lt (Nat.le_of_eq g6.symm))
  have ne_a2_b6 : a2 ≠ b6 := Nat.ne_of_lt (Nat.lt_of_lt_of_le V_a2.lt (Nat.le_of_eq g6.symm))
  have g_b6 : n0 ≤ b6 := Nat.le_trans Z5 (Nat.le_of_eq g6.symm)
  have sz_b6 : h0.size ≤ b6 := Nat.le_trans K5.1 (Nat.le_of_eq g6.symm)
  have E_a1 := E_a1.ext E6
  have F_mShared_a1 := F_mShared_a1.ext E6
  have F_mTask_a1 := F_mTask_a1.ext E6
  have F_mLength_a1 := F_mLength_a1.ext E6
  have V_a2 := V_a2.ext E6
  have V_a3 := V_a3.ext E6
  have E_b2 := E_b2.ext E6
  have Z6 : n0 ≤ h6.size := Nat.le_trans Z5 E6.1
  have K6 := K5.ext E6
  have O6o := O5o.ext E6
  have E_b6 : Exa Z h6 b6 "com/example/leafcutter/leafcutter/Frame" := A6
  have F_mType_b6 : Fld Z h6 b6 "com/example/leafcutter/leafcutter/Frame" "mType" "Lcom/example/leafcutter/leafcutter/Frame$Type;" .null := D6 (Or.inr (hw _ (List.mem_of_getElem? (i := 23) rfl))) (ty := (.object "com/example/leafcutter/leafcutter/Frame$Type")) (by decide)
  have F_mStatus_b6 : Fld Z h6 b6 "com/example/leafcutter/leafcutter/Frame" "mStatus" "I" (.int (0 : Int32)) := D6 (Or.inr (hw _ (List.mem_of_getElem? (i := 25) rfl))) (ty := .int) (by decide)
  have F_mPayload_b6 : Fld Z h6 b6 "com/example/leafcutter/leafcutter/Frame" "mPayload" "[B" .null := D6 (Or.inr (hw _ (List.mem_of_getElem? (i := 27) rfl))) (ty := (.array .byte)) (by decide)
  obtain ⟨T7, X7, e7, st7⟩ := getS2 X6 hx hZ hown (host := "") (Or.inl (hw _ (List.mem_of_getElem? (i := 15) rfl))) Via.refl e6 (BS_TASK.ext O6o.2) (g := (mkF m 33 #[.val (.ref a1), .val (.ref a2), .val (.ref a3)] [(.ref b6), (.ref b6), (.ref a1)])) rfl (hb hby own_d1_33)
  obtain ⟨_, _, ⟨T8, L8, k8, n8⟩, -, X8, ⟨Lc8, hQ8, l8, y8, z8⟩, st8⟩ := X7.specialBack hx (y := (⟨"com/example/leafcutter/leafcutter/Frame", "<init>", "(Lcom/example/leafcutter/leafcutter/Frame$Type;I[B)V"⟩ : MethodName)) rfl hown (mvT hZ (hw _ (List.mem_of_getElem? (i := 18) rfl))) (mvT hZ (hw _ (List.mem_of_getElem? (i := 19) rfl))) (mvT hZ (hw _ (List.mem_of_getElem? (i := 20) rfl))) (by decide) (backOf (W := 2) (rm3 l Z a0 hw [] b6 t1 (0 : Int32) a3 .null ((.int (0 : Int32))) .null h6 n0 Z6 E_b6 F_mType_b6 F_mStatus_b6 F_mPayload_b6 g_b6 (by decide) (by decide)) hZ (hw _ (List.mem_of_getElem? (i := 20) rfl)) (hw _ (List.mem_of_getElem? (i := 14) rfl)) (by decide) (by decide)) (g := (mkF m 38 #[.val (.ref a1), .val (.ref a2), .val (.ref a3)] [(.ref a3), (.int (0 : Int32)), (.ref t1), (.ref b6), (.ref b6), (.ref a1)])) rfl (by rw [hml]; rfl) (Steps.refl _) (a := b6) (argsL := [(.ref t1), (.int (0 : Int32)), (.ref a3)]) (rest := [(.ref b6), (.ref a1)]) (lenOf own_pd0 rfl) rfl (by show 2 * 0 + _ ≤ _; exact Nat.le_of_eq rfl) (hb hby own_d1_38) (fun _ _ => ⟨rfl, e7, (by decide : 2 + 0 ≤ _), (by decide : 6 + 0 ≤ _)⟩)
  dsimp only [Pt.U, Pt.locs, Pt.cells, Pt.slots] at X8 l8 y8 z8 st8 hQ8
  subst l8 y8 z8
  obtain ⟨rfl, N8q, Kq8, P8_0⟩ := hQ8
  have N8 := Fr.app N5 N8q
  have O8o := O6o.keep Kq8 (allS g_b6 all0)
  have E_a1 := E_a1.keep Kq8
  have F_mShared_a1 := F_mShared_a1.keep Kq8 (ninS ne_a1_b6 nin0)
  have F_mTask_a1 := F_mTask_a1.keep Kq8 (ninS ne_a1_b6 nin0)
  have F_mLength_a1 := F_mLength_a1.keep Kq8 (ninS ne_a1_b6 nin0)
  have V_a2 := V_a2.keep Kq8 (ninS ne_a2_b6 nin0)
  have V_a3 := V_a3.keep Kq8 (ninS ne_a3_b6 nin0)
  have E_b2 := E_b2.keep Kq8
  have E_b6 := P8_0
  have Z8 : n0 ≤ T8.heap.size := Nat.le_trans Z6 Kq8.1
  have K8 := K6.trans Kq8 (allS (Or.inr sz_b6) all0)
  obtain ⟨T9, h9, X9, e9, W9, st9⟩ := putF X8 hx hZ hown (host := "") (Or.inl (hw _ (List.mem_of_getElem? (i := 28) rfl))) Via.refl rfl F_mTask_a1 E_a1 (Or.inl (hw _ (List.mem_of_getElem? (i := 29) rfl))) (hw _ (List.mem_of_getElem? (i := 2) rfl)) (ty := (.object "com/example/leafcutter/leafcutter/Frame")) (by decide) rfl rfl (g := (mkF m 41 #[.val (.ref a1), .val (.ref a2), .val (.ref a3)] [(.ref b6), (.ref a1)])) rfl rfl (hb hby own_d1_41)
  have E_a1 := E_a1.wr W9
  have F_mShared_a1 := F_mShared_a1.other W9 (Or.inr (slot_ne (Or.inl (hw _ (List.mem_of_getElem? (i := 11) rfl))) (Or.inl (hw _ (List.mem_of_getElem? (i := 29) rfl))) (by decide) (t := (.object "com/example/leafcutter/leafcutter/Frame")) (t' := (.object "com/example/leafcutter/leafcutter/Frame")) (by decide) (by decide)))
  have F_mLength_a1 := F_mLength_a1.other W9 (Or.inr (slot_ne (Or.inl (hw _ (List.mem_of_getElem? (i := 31) rfl))) (Or.inl (hw _ (List.mem_of_getElem? (i := 29) rfl))) (by decide) (t := .long) (t' := (.object "com/example/leafcutter/leafcutter/Frame")) (by decide) (by decide)))
  have V_a2 := V_a2.other W9 ne_a2_a1
  have V_a3 := V_a3.other W9 ne_a3_a1
  have E_b2 := E_b2.wr W9
  have E_b6 := E_b6.wr W9
  have Z9 : n0 ≤ h9.size := Nat.le_trans Z8 (Keep.of_wr W9).1
  have K9 := K8.wr W9 (Or.inl (List.mem_of_getElem? (i := 0) rfl))
  have N9 := Fr.snoc X9 N8 g_a1
  have O9o := O8o.wr W9 g_a1
  have F_mTask_a1 : Fld Z h9 a1 "com/example/leafcutter/leafcutter/Instance$Frames" "mTask" "Lcom/example/leafcutter/leafcutter/Frame;" (.ref b6) := F_mTask_a1.same W9
  obtain ⟨cl_a2, Ar_a2, -, S_a2, N_a2, -, -⟩ := id V_a2
  obtain ⟨cl_a3, Ar_a3, -, S_a3, N_a3, -, -⟩ := id V_a3
  obtain ⟨T10, h10, X10, e10, W10, st10⟩ := putF X9 hx hZ hown (host := "") (Or.inl (hw _ (List.mem_of_getElem? (i := 30) rfl))) Via.refl e9 F_mLength_a1 E_a1 (Or.inl (hw _ (List.mem_of_getElem? (i := 31) rfl))) (hw _ (List.mem_of_getElem? (i := 2) rfl)) (ty := .long) (by decide) rfl rfl (g := (mkF m 65 #[.val (.ref a1), .val (.ref a2), .val (.ref a3)] [(.long (((((6 : Int32) + z2) + (6 : Int32)) + z3).toInt64)), (.ref a1)])) rfl rfl (hb hby own_d1_65)
  have E_a1 := E_a1.wr W10
  have F_mShared_a1 := F_mShared_a1.other W10 (Or.inr (slot_ne (Or.inl (hw _ (List.mem_of_getElem? (i := 11) rfl))) (Or.inl (hw _ (List.mem_of_getElem? (i := 31) rfl))) (by decide) (t := (.object "com/example/leafcutter/leafcutter/Frame")) (t' := .long) (by decide) (by decide)))
  have F_mTask_a1 := F_mTask_a1.other W10 (Or.inr (slot_ne (Or.inl (hw _ (List.mem_of_getElem? (i := 29) rfl))) (Or.inl (hw _ (List.mem_of_getElem? (i := 31) rfl))) (by decide) (t := (.object "com/example/leafcutter/leafcutter/Frame")) (t' := .long) (by decide) (by decide)))
  have V_a2 := V_a2.other W10 ne_a2_a1
  have V_a3 := V_a3.other W10 ne_a3_a1
  have E_b2 := E_b2.wr W10
  have E_b6 := E_b6.wr W10
  have Z10 : n0 ≤ h10.size := Nat.le_trans Z9 (Keep.of_wr W10).1
  have K10 := K9.wr W10 (Or.inl (List.mem_of_getElem? (i := 0) rfl))
  have N10 := Fr.snoc X10 N9 g_a1
  have O10o := O9o.wr W10 g_a1
  have F_mLength_a1 : Fld Z h10 a1 "com/example/leafcutter/leafcutter/Instance$Frames" "mLength" "J" (.long (((((6 : Int32) + z2) + (6 : Int32)) + z3).toInt64)) := F_mLength_a1.same W10
  have pre11 : ∀ t, Steps p.tables e below (T10.setTop (mkF m 68 #[.val (.ref a1), .val (.ref a2), .val (.ref a3)] [])) t → Steps p.tables e below (s₁.setTop (entryFrame m #[(.ref a1), (.ref a2), (.ref a3)] 3)) t := by
    intro t k
    refine pre0 _ ?_
    show Steps p.tables e below (s₁.setTop (mkF m 0 #[.val (.ref a1), .val (.ref a2), .val (.ref a3)] [])) _
    refine XS.aloadN X0.here hx rfl (hb hby own_d1_0) rfl rfl ?_
    show Steps p.tables e below (s₁.setTop (mkF m 1 #[.val (.ref a1), .val (.ref a2), .val (.ref a3)] [(.ref a1)])) _
    refine st1 _ ?_
    show Steps p.tables e below (T1.setTop (mkF m 4 #[.val (.ref a1), .val (.ref a2), .val (.ref a3)] [])) _
    refine XS.aloadN X1.here hx rfl (hb hby own_d1_4) rfl rfl ?_
    show Steps p.tables e below (T1.setTop (mkF m 5 #[.val (.ref a1), .val (.ref a2), .val (.ref a3)] [(.ref a1)])) _
    refine XS.aloadN X1.here hx rfl (hb hby own_d1_5) rfl rfl ?_
    show Steps p.tables e below (T1.setTop (mkF m 6 #[.val (.ref a1), .val (.ref a2), .val (.ref a3)] [(.ref a2), (.ref a1)])) _
    refine XS.ifnonnullYes X1.here hx rfl (pc0 := 6) (pc' := 13) rfl (hb hby own_d1_6) rfl (by decide) (by decide) ?_
    show Steps p.tables e below (T1.setTop (mkF m 13 #[.val (.ref a1), .val (.ref a2), .val (.ref a3)] [(.ref a1)])) _
    refine st2 _ ?_
    show Steps p.tables e below (T2.setTop (mkF m 16 #[.val (.ref a1), .val (.ref a2), .val (.ref a3)] [(.ref b2), (.ref a1)])) _
    refine XS.dup X2.here hx rfl (hb hby own_d1_16) rfl rfl ?_
    show Steps p.tables e below (T2.setTop (mkF m 17 #[.val (.ref a1), .val (.ref a2), .val (.ref a3)] [(.ref b2), (.ref b2), (.ref a1)])) _
    refine st3 _ ?_
    show Steps p.tables e below (T3.setTop (mkF m 20 #[.val (.ref a1), .val (.ref a2), .val (.ref a3)] [(.ref t2), (.ref b2), (.ref b2), (.ref a1)])) _
    refine XS.iconst X3.here hx rfl (hb hby own_d1_20) ?_
    show Steps p.tables e below (T3.setTop (mkF m 21 #[.val (.ref a1), .val (.ref a2), .val (.ref a3)] [(.int (0 : Int32)), (.ref t2), (.ref b2), (.ref b2), (.ref a1)])) _
    refine XS.aloadN X3.here hx rfl (hb hby own_d1_21) rfl rfl ?_
    show Steps p.tables e below (T3.setTop (mkF m 22 #[.val (.ref a1), .val (.ref a2), .val (.ref a3)] [(.ref a2), (.int (0 : Int32)), (.ref t2), (.ref b2), (.ref b2), (.ref a1)])) _
    refine st4.trans ?_
    show Steps p.tables e below (T4.setTop (mkF m 25 #[.val (.ref a1), .val (.ref a2), .val (.ref a3)] [(.ref b2), (.ref a1)])) _
    refine st5 _ ?_
    show Steps p.tables e below (T5.setTop (mkF m 28 #[.val (.ref a1), .val (.ref a2), .val (.ref a3)] [])) _
    refine XS.aloadN X5.here hx rfl (hb hby own_d1_28) rfl rfl ?_
    show Steps p.tables e below (T5.setTop (mkF m 29 #[.val (.ref a1), .val (.ref a2), .val (.ref a3)] [(.ref a1)])) _
    refine st6 _ ?_
    show Steps p.tables e below (T6.setTop (mkF m 32 #[.val (.ref a1), .val (.ref a2), .val (.ref a3)] [(.ref b6), (.ref a1)])) _
    refine XS.dup X6.here hx rfl (hb hby own_d1_32) rfl rfl ?_
    show Steps p.tables e below (T6.setTop (mkF m 33 #[.val (.ref a1), .val (.ref a2), .val (.ref a3)] [(.ref b6), (.ref b6), (.ref a1)])) _
    refine st7 _ ?_
    show Steps p.tables e below (T7.setTop (mkF m 36 #[.val (.ref a1), .val (.ref a2), .val (.ref a3)] [(.ref t1), (.ref b6), (.ref b6), (.ref a1)])) _
    refine XS.iconst X7.here hx rfl (hb hby own_d1_36) ?_
    show Steps p.tables e below (T7.setTop (mkF m 37 #[.val (.ref a1), .val (.ref a2), .val (.ref a3)] [(.int (0 : Int32)), (.ref t1), (.ref b6), (.ref b6), (.ref a1)])) _
    refine XS.aloadN X7.here hx rfl (hb hby own_d1_37) rfl rfl ?_
    show Steps p.tables e below (T7.setTop (mkF m 38 #[.val (.ref a1), .val (.ref a2), .val (.ref a3)] [(.ref a3), (.int (0 : Int32)), (.ref t1), (.ref b6), (.ref b6), (.ref a1)])) _
    refine st8.trans ?_
    show Steps p.tables e below (T8.setTop (mkF m 41 #[.val (.ref a1), .val (.ref a2), .val (.ref a3)] [(.ref b6), (.ref a1)])) _
    refine st9 _ ?_
    show Steps p.tables e below (T9.setTop (mkF m 44 #[.val (.ref a1), .val (.ref a2), .val (.ref a3)] [])) _
    refine XS.aloadN X9.here hx rfl (hb hby own_d1_44) rfl rfl ?_
    show Steps p.tables e below (T9.setTop (mkF m 45 #[.val (.ref a1), .val (.ref a2), .val (.ref a3)] [(.ref a1)])) _
    refine XS.aloadN X9.here hx rfl (hb hby own_d1_45) rfl rfl ?_
    show Steps p.tables e below (T9.setTop (mkF m 46 #[.val (.ref a1), .val (.ref a2), .val (.ref a3)] [(.ref a2), (.ref a1)])) _
    refine XS.ifnonnullYes X9.here hx rfl (pc0 := 46) (pc' := 53) rfl (hb hby own_d1_46) rfl (by decide) (by decide) ?_
    show Steps p.tables e below (T9.setTop (mkF m 53 #[.val (.ref a1), .val (.ref a2), .val (.ref a3)] [(.ref a1)])) _
    refine XS.bipush X9.here hx rfl (hb hby own_d1_53) ?_
    show Steps p.tables e below (T9.setTop (mkF m 55 #[.val (.ref a1), .val (.ref a2), .val (.ref a3)] [(.int (6 : Int32)), (.ref a1)])) _
    refine XS.aloadN X9.here hx rfl (hb hby own_d1_55) rfl rfl ?_
    show Steps p.tables e below (T9.setTop (mkF m 56 #[.val (.ref a1), .val (.ref a2), .val (.ref a3)] [(.ref a2), (.int (6 : Int32)), (.ref a1)])) _
    refine X9.arraylength hx (by rw [e9]; exact Ar_a2.1) (State.isArrayOf_alike hZ.alike Ar_a2.2.1) (g := (mkF m 56 #[.val (.ref a1), .val (.ref a2), .val (.ref a3)] [(.ref a2), (.int (6 : Int32)), (.ref a1)])) rfl rfl (hb hby own_d1_56) _ ?_
    rw [len_of S_a2 N_a2]
    show Steps p.tables e below (T9.setTop (mkF m 57 #[.val (.ref a1), .val (.ref a2), .val (.ref a3)] [(.int z2), (.int (6 : Int32)), (.ref a1)])) _
    refine XS.iadd X9.here hx rfl (hb hby own_d1_57) rfl ?_
    show Steps p.tables e below (T9.setTop (mkF m 58 #[.val (.ref a1), .val (.ref a2), .val (.ref a3)] [(.int ((6 : Int32) + z2)), (.ref a1)])) _
    refine XS.bipush X9.here hx rfl (hb hby own_d1_58) ?_
    show Steps p.tables e below (T9.setTop (mkF m 60 #[.val (.ref a1), .val (.ref a2), .val (.ref a3)] [(.int (6 : Int32)), (.int ((6 : Int32) + z2)), (.ref a1)])) _
    refine XS.iadd X9.here hx rfl (hb hby own_d1_60) rfl ?_
    show Steps p.tables e below (T9.setTop (mkF m 61 #[.val (.ref a1), .val (.ref a2), .val (.ref a3)] [(.int (((6 : Int32) + z2) + (6 : Int32))), (.ref a1)])) _
    refine XS.aloadN X9.here hx rfl (hb hby own_d1_61) rfl rfl ?_
    show Steps p.tables e below (T9.setTop (mkF m 62 #[.val (.ref a1), .val (.ref a2), .val (.ref a3)] [(.ref a3), (.int (((6 : Int32) + z2) + (6 : Int32))), (.ref a1)])) _
    refine X9.arraylength hx (by rw [e9]; exact Ar_a3.1) (State.isArrayOf_alike hZ.alike Ar_a3.2.1) (g := (mkF m 62 #[.val (.ref a1), .val (.ref a2), .val (.ref a3)] [(.ref a3), (.int (((6 : Int32) + z2) + (6 : Int32))), (.ref a1)])) rfl rfl (hb hby own_d1_62) _ ?_
    rw [len_of S_a3 N_a3]
    show Steps p.tables e below (T9.setTop (mkF m 63 #[.val (.ref a1), .val (.ref a2), .val (.ref a3)] [(.int z3), (.int (((6 : Int32) + z2) + (6 : Int32))), (.ref a1)])) _
    refine XS.iadd X9.here hx rfl (hb hby own_d1_63) rfl ?_
    show Steps p.tables e below (T9.setTop (mkF m 64 #[.val (.ref a1), .val (.ref a2), .val (.ref a3)] [(.int ((((6 : Int32) + z2) + (6 : Int32)) + z3)), (.ref a1)])) _
    refine XS.i2l X9.here hx rfl (hb hby own_d1_64) rfl ?_
    show Steps p.tables e below (T9.setTop (mkF m 65 #[.val (.ref a1), .val (.ref a2), .val (.ref a3)] [(.long (((((6 : Int32) + z2) + (6 : Int32)) + z3).toInt64)), (.ref a1)])) _
    refine st10 _ ?_
    exact k
  obtain ⟨fs, hr, hrun, hended, hW, hsame⟩ := X10.leave (v := none) (fun _ => rfl)
  refine ⟨_, _, pre11 _ ?_, hrun, hended, _, _, rfl, ?_, ⟨_, rfl⟩, hW, hsame.mono (by decide) (by decide)⟩
  · show Steps p.tables e below (T10.setTop (mkF m 68 #[.val (.ref a1), .val (.ref a2), .val (.ref a3)] [])) _
    exact X10.returnOut hx Bd.returns (hb hby own_d1_68) hr
  · show own_Q1 Z a1 a2 a3 u1 u2 u3 k2 z2 k3 z3 t1 t2 h0 n0 _ T10.heap _
    rw [e10]
    exact ⟨rfl, N10, K10, E_a1, F_mLength_a1, ⟨_, F_mShared_a1⟩, ⟨_, F_mTask_a1⟩⟩
theorem own_d4_0 : decode prog_21_method_3_code 0 = .ok (.aload_n 0, 1) := by decide +kernel
theorem own_d4_1 : decode prog_21_method_3_code 1 = .ok (.getfield 32, 3) := by decide +kernel
theorem own_d4_4 : decode prog_21_method_3_code 4 = .ok (.ldc2_w 36, 3) := by decide +kernel
theorem own_d4_7 : decode prog_21_method_3_code 7 = .ok (.lcmp, 1) := by decide +kernel
theorem own_d4_8 : decode prog_21_method_3_code 8 = .ok (.ifCond .le 7, 3) := by decide +kernel
theorem own_d4_11 : decode prog_21_method_3_code 11 = .ok (.iconst 1, 1) := by decide +kernel
theorem own_d4_12 : decode prog_21_method_3_code 12 = .ok (.goto 4, 3) := by decide +kernel
theorem own_d4_15 : decode prog_21_method_3_code 15 = .ok (.iconst 0, 1) := by decide +kernel
theorem own_d4_16 : decode prog_21_method_3_code 16 = .ok (.ireturn, 1) := by decide +kernel
theorem own_ef4 (m : MethodId) (x0 : Addr) : entryFrame m #[(.ref x0)] 1 = mkF m 0 #[.val (.ref x0)] [] := by first | (simp [entryFrame, mkF, argsToLocals, Value.category]; done) | rfl
def own_Q4 (Z : State) (a1 : Addr) (w1 : Int64) (h0 : Heap) (n0 : Nat) (v : Option Value) (h : Heap) (L : List Loc) : Prop := v = some (.int (own_rest w1)) ∧ Fr n0 L ∧ h = h0
set_option maxRecDepth 65536 in
set_option maxHeartbeats 40000000 in
theorem rm4 (l : Launch) (Z : State) (a0 : Array Value) (hw : ∀ d ∈ tables_1, d.before a0 Z = true) (ws : List Jvm.Cond) (a1 : Addr) (w1 : Int64) (h0 : Heap) (n0 : Nat) (Z0 : n0 ≤ h0.size) (F_mLength_a1 : Fld Z h0 a1 "com/example/leafcutter/leafcutter/Instance$Frames" "mLength" "J" (.long w1)) :
    MetFree l (⟨"com/example/leafcutter/leafcutter/Instance$Frames", "hasRest", "()Z"⟩ : MethodName) (head1 (Jvm.Cond.code (⟨"com/example/leafcutter/leafcutter/Instance$Frames", "hasRest", "()Z"⟩ : MethodName) prog_21_method_3_code 1 (some .boolean) :: ws) ({ frames := 0, cells := 0, slots := 0, locals := 0 } : Room)) (fun a U => a = #[(.ref a1)] ∧ Z.Warmed39 U.vm ∧ U.heap = h0) (fun _ _ _ _ _ => True) (fun _ U o U' => ∃ v L, o = .returned v ∧ own_Q4 Z a1 w1 h0 n0 v U'.heap L ∧ FrameEnd U o U' L ({ frames := 0, cells := 0, slots := 0, locals := 0 } : Room).cells ({ frames := 0, cells := 0, slots := 0, locals := 0 } : Room).slots) := by
  refine MetFree.of_bodySF (plainFor_of_name own_pn4) hisR ?_
  intro p e s m args below meth c s₁ Bd hml0 hP hK
  obtain ⟨rfl, hZ, hh⟩ := hP
  have hx := Bd.exec
  have hby := Bd.bytes
  have hml : c.maxLocals = 1 := hml0
  have hown : s.vm.findClass "com/example/leafcutter/leafcutter/Instance$Frames" = some m.cls := findClass_of_methodNamed Bd.named
  have hnm := (name_of_methodNamed Bd.named Bd.method).1
  have X0 : Stand p l e ({ frames := 0, cells := 0, slots := 0, locals := 0 } : Room) s m #[(.ref a1)] below meth c s₁ [] 0 0 := Stand.of_body Bd
  have e0 : s₁.heap = h0 := by rw [← hh, Bd.state]; rfl
  have N0 := Fr.nil n0
  have pre0 : ∀ t, Steps p.tables e below (s₁.setTop (mkF m 0 #[.val (.ref a1)] [])) t → Steps p.tables e below (s₁.setTop (entryFrame m #[(.ref a1)] 1)) t := fun t k => castTop (own_ef4 m a1) k
  obtain ⟨T1, X1, e1, st1⟩ := getF X0 hx hZ hown (host := "") (Or.inl (hw _ (List.mem_of_getElem? (i := 30) rfl))) Via.refl e0 F_mLength_a1 (g := (mkF m 1 #[.val (.ref a1)] [(.ref a1)])) rfl rfl (hb hby own_d4_1)
  have pre2 : ∀ t, Steps p.tables e below (T1.setTop (mkF m 8 #[.val (.ref a1)] [(.int (lcmpW w1 (512 : Int64)))])) t → Steps p.tables e below (s₁.setTop (entryFrame m #[(.ref a1)] 1)) t := by
    intro t k
    refine pre0 _ ?_
    show Steps p.tables e below (s₁.setTop (mkF m 0 #[.val (.ref a1)] [])) _
    refine XS.aloadN X0.here hx rfl (hb hby own_d4_0) rfl rfl ?_
    show Steps p.tables e below (s₁.setTop (mkF m 1 #[.val (.ref a1)] [(.ref a1)])) _
    refine st1 _ ?_
    show Steps p.tables e below (T1.setTop (mkF m 4 #[.val (.ref a1)] [(.long w1)])) _
    refine X1.ldc2J hx hown (mvT hZ (hw _ (List.mem_of_getElem? (i := 39) rfl))) rfl (hb hby own_d4_4) ?_
    show Steps p.tables e below (T1.setTop (mkF m 7 #[.val (.ref a1)] [(.long (512 : Int64)), (.long w1)])) _
    refine XS.lcmp X1.here hx rfl (hb hby own_d4_7) rfl ?_
    exact k
  by_cases hc8 : (512 : Int64) < w1
  · -- hc8 
    have pre3 : ∀ t, Steps p.tables e below (T1.setTop (mkF m 16 #[.val (.ref a1)] [(.int (1 : Int32))])) t → Steps p.tables e below (s₁.setTop (entryFrame m #[(.ref a1)] 1)) t := by
      intro t k
      refine pre2 _ ?_
      show Steps p.tables e below (T1.setTop (mkF m 8 #[.val (.ref a1)] [(.int (lcmpW w1 (512 : Int64)))])) _
      refine XS.ifNo X1.here hx rfl (hb hby own_d4_8) rfl ((if0 _ _).trans (tlt ((lw_gt w1 (512 : Int64)).mpr hc8)).2.2.2) ?_
      show Steps p.tables e below (T1.setTop (mkF m 11 #[.val (.ref a1)] [])) _
      refine XS.iconst X1.here hx rfl (hb hby own_d4_11) ?_
      show Steps p.tables e below (T1.setTop (mkF m 12 #[.val (.ref a1)] [(.int (1 : Int32))])) _
      refine XS.goto X1.here hx rfl (pc0 := 12) (pc' := 16) rfl (hb hby own_d4_12) (by decide) (by decide) ?_
      exact k
    obtain ⟨fs, hr, hrun, hended, hW, hsame⟩ := X1.leave (v := some (.int (1 : Int32))) (fun h => by rw [Bd.returns] at h; cases h)
    refine ⟨_, _, pre3 _ ?_, hrun, hended, _, _, rfl, ?_, ⟨_, rfl⟩, hW, hsame.mono (by decide) (by decide)⟩
    · show Steps p.tables e below (T1.setTop (mkF m 16 #[.val (.ref a1)] [(.int (1 : Int32))])) _
      exact retN X1 hx (t := .boolean) Bd.returns (by simp) (hb hby own_d4_16) hr
    · show own_Q4 Z a1 w1 h0 n0 _ T1.heap _
      rw [e1]
      exact ⟨congrArg (fun z => some (Value.int z)) (show (1 : Int32) = (own_rest w1) from own_rest1 hc8), N0, rfl⟩
  · -- hc8 not
    have pre4 : ∀ t, Steps p.tables e below (T1.setTop (mkF m 16 #[.val (.ref a1)] [(.int (0 : Int32))])) t → Steps p.tables e below (s₁.setTop (entryFrame m #[(.ref a1)] 1)) t := by
      intro t k
      refine pre2 _ ?_
      show Steps p.tables e below (T1.setTop (mkF m 8 #[.val (.ref a1)] [(.int (lcmpW w1 (512 : Int64)))])) _
      refine XS.ifYes X1.here hx rfl (pc0 := 8) (pc' := 15) rfl (hb hby own_d4_8) rfl ((if0 _ _).trans (flt (fun q => hc8 ((lw_gt w1 (512 : Int64)).mp q))).2.2.2) (by decide) (by decide) ?_
      show Steps p.tables e below (T1.setTop (mkF m 15 #[.val (.ref a1)] [])) _
      refine XS.iconst X1.here hx rfl (hb hby own_d4_15) ?_
      exact k
    obtain ⟨fs, hr, hrun, hended, hW, hsame⟩ := X1.leave (v := some (.int (0 : Int32))) (fun h => by rw [Bd.returns] at h; cases h)
    refine ⟨_, _, pre4 _ ?_, hrun, hended, _, _, rfl, ?_, ⟨_, rfl⟩, hW, hsame.mono (by decide) (by decide)⟩
    · show Steps p.tables e below (T1.setTop (mkF m 16 #[.val (.ref a1)] [(.int (0 : Int32))])) _
      exact retN X1 hx (t := .boolean) Bd.returns (by simp) (hb hby own_d4_16) hr
    · show own_Q4 Z a1 w1 h0 n0 _ T1.heap _
      rw [e1]
      exact ⟨congrArg (fun z => some (Value.int z)) (show (0 : Int32) = (own_rest w1) from own_rest0 hc8), N0, rfl⟩
theorem own_d5_0 : decode prog_21_method_5_code 0 = .ok (.aload_n 0, 1) := by decide +kernel
theorem own_d5_1 : decode prog_21_method_5_code 1 = .ok (.aconst_null, 1) := by decide +kernel
theorem own_d5_2 : decode prog_21_method_5_code 2 = .ok (.putfield 20, 3) := by decide +kernel
theorem own_d5_5 : decode prog_21_method_5_code 5 = .ok (.aload_n 0, 1) := by decide +kernel
theorem own_d5_6 : decode prog_21_method_5_code 6 = .ok (.aconst_null, 1) := by decide +kernel
theorem own_d5_7 : decode prog_21_method_5_code 7 = .ok (.putfield 29, 3) := by decide +kernel
theorem own_d5_10 : decode prog_21_method_5_code 10 = .ok (.aload_n 0, 1) := by decide +kernel
theorem own_d5_11 : decode prog_21_method_5_code 11 = .ok (.lconst 0, 1) := by decide +kernel
theorem own_d5_12 : decode prog_21_method_5_code 12 = .ok (.putfield 32, 3) := by decide +kernel
theorem own_d5_15 : decode prog_21_method_5_code 15 = .ok (.return_, 1) := by decide +kernel
theorem own_ef5 (m : MethodId) (x0 : Addr) : entryFrame m #[(.ref x0)] 1 = mkF m 0 #[.val (.ref x0)] [] := by first | (simp [entryFrame, mkF, argsToLocals, Value.category]; done) | rfl
def own_Q5 (Z : State) (a1 : Addr) (u1 : Value) (u2 : Value) (u3 : Value) (h0 : Heap) (n0 : Nat) (v : Option Value) (h : Heap) (L : List Loc) : Prop := v = none ∧ Fr n0 L ∧ Keep h0 h [a1] ∧ Exa Z h a1 "com/example/leafcutter/leafcutter/Instance$Frames" ∧ Fld Z h a1 "com/example/leafcutter/leafcutter/Instance$Frames" "mLength" "J" (.long (0 : Int64))
set_option maxRecDepth 65536 in
set_option maxHeartbeats 40000000 in
theorem rm5 (l : Launch) (Z : State) (a0 : Array Value) (hw : ∀ d ∈ tables_1, d.before a0 Z = true) (ws : List Jvm.Cond) (a1 : Addr) (u1 : Value) (u2 : Value) (u3 : Value) (h0 : Heap) (n0 : Nat) (Z0 : n0 ≤ h0.size) (E_a1 : Exa Z h0 a1 "com/example/leafcutter/leafcutter/Instance$Frames") (F_mShared_a1 : Fld Z h0 a1 "com/example/leafcutter/leafcutter/Instance$Frames" "mShared" "Lcom/example/leafcutter/leafcutter/Frame;" u1) (F_mTask_a1 : Fld Z h0 a1 "com/example/leafcutter/leafcutter/Instance$Frames" "mTask" "Lcom/example/leafcutter/leafcutter/Frame;" u2) (F_mLength_a1 : Fld Z h0 a1 "com/example/leafcutter/leafcutter/Instance$Frames" "mLength" "J" u3) (g_a1 : n0 ≤ a1) :
    MetFree l (⟨"com/example/leafcutter/leafcutter/Instance$Frames", "drop", "()V"⟩ : MethodName) (head1 (Jvm.Cond.code (⟨"com/example/leafcutter/leafcutter/Instance$Frames", "drop", "()V"⟩ : MethodName) prog_21_method_5_code 1 none :: ws) ({ frames := 0, cells := 0, slots := 0, locals := 0 } : Room)) (fun a U => a = #[(.ref a1)] ∧ Z.Warmed39 U.vm ∧ U.heap = h0) (fun _ _ _ _ _ => True) (fun _ U o U' => ∃ v L, o = .returned v ∧ own_Q5 Z a1 u1 u2 u3 h0 n0 v U'.heap L ∧ FrameEnd U o U' L ({ frames := 0, cells := 0, slots := 0, locals := 0 } : Room).cells ({ frames := 0, cells := 0, slots := 0, locals := 0 } : Room).slots) := by
  refine MetFree.of_bodySF (plainFor_of_name own_pn5) hisR ?_
  intro p e s m args below meth c s₁ Bd hml0 hP hK
  obtain ⟨rfl, hZ, hh⟩ := hP
  have hx := Bd.exec
  have hby := Bd.bytes
  have hml : c.maxLocals = 1 := hml0
  have hown : s.vm.findClass "com/example/leafcutter/leafcutter/Instance$Frames" = some m.cls := findClass_of_methodNamed Bd.named
  have hnm := (name_of_methodNamed Bd.named Bd.method).1
  have X0 : Stand p l e ({ frames := 0, cells := 0, slots := 0, locals := 0 } : Room) s m #[(.ref a1)] below meth c s₁ [] 0 0 := Stand.of_body Bd
  have e0 : s₁.heap = h0 := by rw [← hh, Bd.state]; rfl
  have N0 := Fr.nil n0
  have pre0 : ∀ t, Steps p.tables e below (s₁.setTop (mkF m 0 #[.val (.ref a1)] [])) t → Steps p.tables e below (s₁.setTop (entryFrame m #[(.ref a1)] 1)) t := fun t k => castTop (own_ef5 m a1) k
  have K0 := Keep.refl h0 [a1]
  obtain ⟨T1, h1, X1, e1, W1, st1⟩ := putF X0 hx hZ hown (host := "") (Or.inl (hw _ (List.mem_of_getElem? (i := 10) rfl))) Via.refl e0 F_mShared_a1 E_a1 (Or.inl (hw _ (List.mem_of_getElem? (i := 11) rfl))) (hw _ (List.mem_of_getElem? (i := 2) rfl)) (ty := (.object "com/example/leafcutter/leafcutter/Frame")) (by decide) rfl rfl (g := (mkF m 2 #[.val (.ref a1)] [.null, (.ref a1)])) rfl rfl (hb hby own_d5_2)
  have E_a1 := E_a1.wr W1
  have F_mTask_a1 := F_mTask_a1.other W1 (Or.inr (slot_ne (Or.inl (hw _ (List.mem_of_getElem? (i := 29) rfl))) (Or.inl (hw _ (List.mem_of_getElem? (i := 11) rfl))) (by decide) (t := (.object "com/example/leafcutter/leafcutter/Frame")) (t' := (.object "com/example/leafcutter/leafcutter/Frame")) (by decide) (by decide)))
  have F_mLength_a1 := F_mLength_a1.other W1 (Or.inr (slot_ne (Or.inl (hw _ (List.mem_of_getElem? (i := 31) rfl))) (Or.inl (hw _ (List.mem_of_getElem? (i := 11) rfl))) (by decide) (t := .long) (t' := (.object "com/example/leafcutter/leafcutter/Frame")) (by decide) (by decide)))
  have Z1 : n0 ≤ h1.size := Nat.le_trans Z0 (Keep.of_wr W1).1
  have K1 := K0.wr W1 (Or.inl (List.mem_of_getElem? (i := 0) rfl))
  have N1 := Fr.snoc X1 N0 g_a1
  have F_mShared_a1 : Fld Z h1 a1 "com/example/leafcutter/leafcutter/Instance$Frames" "mShared" "Lcom/example/leafcutter/leafcutter/Frame;" .null := F_mShared_a1.same W1
  obtain ⟨T2, h2, X2, e2, W2, st2⟩ := putF X1 hx hZ hown (host := "") (Or.inl (hw _ (List.mem_of_getElem? (i := 28) rfl))) Via.refl e1 F_mTask_a1 E_a1 (Or.inl (hw _ (List.mem_of_getElem? (i := 29) rfl))) (hw _ (List.mem_of_getElem? (i := 2) rfl)) (ty := (.object "com/example/leafcutter/leafcutter/Frame")) (by decide) rfl rfl (g := (mkF m 7 #[.val (.ref a1)] [.null, (.ref a1)])) rfl rfl (hb hby own_d5_7)
  have E_a1 := E_a1.wr W2
  have F_mShared_a1 := F_mShared_a1.other W2 (Or.inr (slot_ne (Or.inl (hw _ (List.mem_of_getElem? (i := 11) rfl))) (Or.inl (hw _ (List.mem_of_getElem? (i := 29) rfl))) (by decide) (t := (.object "com/example/leafcutter/leafcutter/Frame")) (t' := (.object "com/example/leafcutter/leafcutter/Frame")) (by decide) (by decide)))
  have F_mLength_a1 := F_mLength_a1.other W2 (Or.inr (slot_ne (Or.inl (hw _ (List.mem_of_getElem? (i := 31) rfl))) (Or.inl (hw _ (List.mem_of_getElem? (i := 29) rfl))) (by decide) (t := .long) (t' := (.object "com/example/leafcutter/leafcutter/Frame")) (by decide) (by decide)))
  have Z2 : n0 ≤ h2.size := Nat.le_trans Z1 (Keep.of_wr W2).1
  have K2 := K1.wr W2 (Or.inl (List.mem_of_getElem? (i := 0) rfl))
  have N2 := Fr.snoc X2 N1 g_a1
  have F_mTask_a1 : Fld Z h2 a1 "com/example/leafcutter/leafcutter/Instance$Frames" "mTask" "Lcom/example/leafcutter/leafcutter/Frame;" .null := F_mTask_a1.same W2
  obtain ⟨T3, h3, X3, e3, W3, st3⟩ := putF X2 hx hZ hown (host := "") (Or.inl (hw _ (List.mem_of_getElem? (i := 30) rfl))) Via.refl e2 F_mLength_a1 E_a1 (Or.inl (hw _ (List.mem_of_getElem? (i := 31) rfl))) (hw _ (List.mem_of_getElem? (i := 2) rfl)) (ty := .long) (by decide) rfl rfl (g := (mkF m 12 #[.val (.ref a1)] [(.long (0 : Int64)), (.ref a1)])) rfl rfl (hb hby own_d5_12)
  have E_a1 := E_a1.wr W3
  have F_mShared_a1 := F_mShared_a1.other W3 (Or.inr (slot_ne (Or.inl (hw _ (List.mem_of_getElem? (i := 11) rfl))) (Or.inl (hw _ (List.mem_of_getElem? (i := 31) rfl))) (by decide) (t := (.object "com/example/leafcutter/leafcutter/Frame")) (t' := .long) (by decide) (by decide)))
  have F_mTask_a1 := F_mTask_a1.other W3 (Or.inr (slot_ne (Or.inl (hw _ (List.mem_of_getElem? (i := 29) rfl))) (Or.inl (hw _ (List.mem_of_getElem? (i := 31) rfl))) (by decide) (t := (.object "com/example/leafcutter/leafcutter/Frame")) (t' := .long) (by decide) (by decide)))
  have Z3 : n0 ≤ h3.size := Nat.le_trans Z2 (Keep.of_wr W3).1
  have K3 := K2.wr W3 (Or.inl (List.mem_of_getElem? (i := 0) rfl))
  have N3 := Fr.snoc X3 N2 g_a1
  have F_mLength_a1 : Fld Z h3 a1 "com/example/leafcutter/leafcutter/Instance$Frames" "mLength" "J" (.long (0 : Int64)) := F_mLength_a1.same W3
  have pre4 : ∀ t, Steps p.tables e below (T3.setTop (mkF m 15 #[.val (.ref a1)] [])) t → Steps p.tables e below (s₁.setTop (entryFrame m #[(.ref a1)] 1)) t := by
    intro t k
    refine pre0 _ ?_
    show Steps p.tables e below (s₁.setTop (mkF m 0 #[.val (.ref a1)] [])) _
    refine XS.aloadN X0.here hx rfl (hb hby own_d5_0) rfl rfl ?_
    show Steps p.tables e below (s₁.setTop (mkF m 1 #[.val (.ref a1)] [(.ref a1)])) _
    refine XS.aconstNull X0.here hx rfl (hb hby own_d5_1) ?_
    show Steps p.tables e below (s₁.setTop (mkF m 2 #[.val (.ref a1)] [.null, (.ref a1)])) _
    refine st1 _ ?_
    show Steps p.tables e below (T1.setTop (mkF m 5 #[.val (.ref a1)] [])) _
    refine XS.aloadN X1.here hx rfl (hb hby own_d5_5) rfl rfl ?_
    show Steps p.tables e below (T1.setTop (mkF m 6 #[.val (.ref a1)] [(.ref a1)])) _
    refine XS.aconstNull X1.here hx rfl (hb hby own_d5_6) ?_
    show Steps p.tables e below (T1.setTop (mkF m 7 #[.val (.ref a1)] [.null, (.ref a1)])) _
    refine st2 _ ?_
    show Steps p.tables e below (T2.setTop (mkF m 10 #[.val (.ref a1)] [])) _
    refine XS.aloadN X2.here hx rfl (hb hby own_d5_10) rfl rfl ?_
    show Steps p.tables e below (T2.setTop (mkF m 11 #[.val (.ref a1)] [(.ref a1)])) _
    refine XS.lconst X2.here hx rfl (hb hby own_d5_11) ?_
    show Steps p.tables e below (T2.setTop (mkF m 12 #[.val (.ref a1)] [(.long (0 : Int64)), (.ref a1)])) _
    refine st3 _ ?_
    exact k
  obtain ⟨fs, hr, hrun, hended, hW, hsame⟩ := X3.leave (v := none) (fun _ => rfl)
  refine ⟨_, _, pre4 _ ?_, hrun, hended, _, _, rfl, ?_, ⟨_, rfl⟩, hW, hsame.mono (by decide) (by decide)⟩
  · show Steps p.tables e below (T3.setTop (mkF m 15 #[.val (.ref a1)] [])) _
    exact X3.returnOut hx Bd.returns (hb hby own_d5_15) hr
  · show own_Q5 Z a1 u1 u2 u3 h0 n0 _ T3.heap _
    rw [e3]
    exact ⟨rfl, N3, K3, E_a1, F_mLength_a1⟩
theorem own_ef0 (m : MethodId) (x0 : Int32) (x1 : Int32) (x2 : Int32) : entryFrame m #[(.int x0), (.int x1), (.int x2)] maxLocals = mkF m 0 #[.val (.int x0), .val (.int x1), .val (.int x2), .unset, .unset, .unset, .unset, .unset, .unset, .unset, .unset, .unset] [] := by first | (simp [entryFrame, mkF, argsToLocals, Value.category, maxLocals]; done) | rfl
def own_Q0 (Z : State) (p1 : Int32) (p2 : Int32) (p3 : Int32) (t1 : Addr) (t2 : Addr) (h0 : Heap) (n0 : Nat) (v : Option Value) (h : Heap) (L : List Loc) : Prop := v = some (.int (1 : Int32)) ∧ Fr n0 L
set_option maxRecDepth 65536 in
set_option maxHeartbeats 40000000 in
theorem rm0 (l : Launch) (Z : State) (a0 : Array Value) (hw : ∀ d ∈ tables_1, d.before a0 Z = true) (ws : List Jvm.Cond) (p1 : Int32) (p2 : Int32) (p3 : Int32) (t1 : Addr) (t2 : Addr) (h0 : Heap) (n0 : Nat) (Z0 : n0 ≤ h0.size) (BS_TASK : Sta Z Z.heap "com/example/leafcutter/leafcutter/Frame$Type" "TASK" "Lcom/example/leafcutter/leafcutter/Frame$Type;" (.ref t1)) (BS_SHARED : Sta Z Z.heap "com/example/leafcutter/leafcutter/Frame$Type" "SHARED" "Lcom/example/leafcutter/leafcutter/Frame$Type;" (.ref t2)) (O0 : Old Z n0 h0) :
    MetFree l x (head1 (Jvm.Cond.code x code maxLocals ret :: ws) room_1) (fun a U => a = #[(.int p1), (.int p2), (.int p3)] ∧ Z.Warmed39 U.vm ∧ U.heap = h0) (fun _ _ _ _ _ => True) (fun _ U o U' => ∃ v L, o = .returned v ∧ own_Q0 Z p1 p2 p3 t1 t2 h0 n0 v U'.heap L ∧ FrameEnd U o U' L room_1.cells room_1.slots) := by
  refine MetFree.of_bodySF (plainFor_of_name own_pn0) hisR ?_
  intro p e s m args below meth c s₁ Bd hml0 hP hK
  obtain ⟨rfl, hZ, hh⟩ := hP
  have hx := Bd.exec
  have hby := Bd.bytes
  have hml : c.maxLocals = 12 := hml0
  have hown : s.vm.findClass "com/example/leafcutter/leafcutter/FramesHasRestPinLaw" = some m.cls := findClass_of_methodNamed Bd.named
  have hnm := (name_of_methodNamed Bd.named Bd.method).1
  have X0 : Stand p l e room_1 s m #[(.int p1), (.int p2), (.int p3)] below meth c s₁ [] 0 0 := Stand.of_body Bd
  have e0 : s₁.heap = h0 := by rw [← hh, Bd.state]; rfl
  have N0 := Fr.nil n0
  have pre0 : ∀ t, Steps p.tables e below (s₁.setTop (mkF m 0 #[.val (.int p1), .val (.int p2), .val (.int p3), .unset, .unset, .unset, .unset, .unset, .unset, .unset, .unset, .unset] [])) t → Steps p.tables e below (s₁.setTop (entryFrame m #[(.int p1), (.int p2), (.int p3)] maxLocals)) t := fun t k => castTop (own_ef0 m p1 p2 p3) k
  have pre1 : ∀ t, Steps p.tables e below (s₁.setTop (mkF m 3 #[.val (.int p1), .val (.int p2), .val (.int p3), .unset, .unset, .unset, .unset, .unset, .unset, .unset, .unset, .unset] [(.int (p1 &&& (1 : Int32)))])) t → Steps p.tables e below (s₁.setTop (entryFrame m #[(.int p1), (.int p2), (.int p3)] maxLocals)) t := by
    intro t k
    refine pre0 _ ?_
    show Steps p.tables e below (s₁.setTop (mkF m 0 #[.val (.int p1), .val (.int p2), .val (.int p3), .unset, .unset, .unset, .unset, .unset, .unset, .unset, .unset, .unset] [])) _
    refine XS.iloadN X0.here hx rfl (hb hby at_0) rfl ?_
    show Steps p.tables e below (s₁.setTop (mkF m 1 #[.val (.int p1), .val (.int p2), .val (.int p3), .unset, .unset, .unset, .unset, .unset, .unset, .unset, .unset, .unset] [(.int p1)])) _
    refine XS.iconst X0.here hx rfl (hb hby at_1) ?_
    show Steps p.tables e below (s₁.setTop (mkF m 2 #[.val (.int p1), .val (.int p2), .val (.int p3), .unset, .unset, .unset, .unset, .unset, .unset, .unset, .unset, .unset] [(.int (1 : Int32)), (.int p1)])) _
    refine XS.iand X0.here hx rfl (hb hby at_2) rfl ?_
    exact k
  by_cases hc3 : (p1 &&& (1 : Int32)) = (0 : Int32)
  · -- hc3 
    obtain ⟨T2, h2, k2, X2, e2, E2, A2, st2⟩ := newP X0 hx hZ (hw _ (List.mem_of_getElem? (i := 0) rfl)) e0 (g := (mkF m 42 #[.val (.int p1), .val (.int p2), .val (.int p3), .val (.int (0 : Int32)), .val (.int (p2 &&& (1023 : Int32))), .val (.int (p3 &&& (1023 : Int32))), .val .null, .unset, .unset, .unset, .unset, .unset] [(.int (p3 &&& (1023 : Int32)))])) rfl (hb hby at_42) rfl (own_m1 p3) (cap := 1023) (own_m2 p3) (by decide) (by decide) (by decide)
    obtain ⟨b2, g2⟩ : ∃ z, z = h0.size := ⟨_, rfl⟩
    rw [← g2] at A2 st2
    have g_b2 : n0 ≤ b2 := Nat.le_trans Z0 (Nat.le_of_eq g2.symm)
    have Z2 : n0 ≤ h2.size := Nat.le_trans Z0 E2.1
    have O2o := O0.ext E2
    have V_b2 : Arv Z h2 b2 k2 .byte (p3 &&& (1023 : Int32)) [] (.int (0 : Int32)) := Arv.new A2 (own_m1 p3)
    obtain ⟨T3, h3, X3, e3, E3, A3, D3, -, st3⟩ := newO X2 hx hZ hown (hw _ (List.mem_of_getElem? (i := 1) rfl)) (hw _ (List.mem_of_getElem? (i := 2) rfl)) (hw _ (List.mem_of_getElem? (i := 3) rfl)) e2 (g := (mkF m 46 #[.val (.int p1), .val (.int p2), .val (.int p3), .val (.int (0 : Int32)), .val (.int (p2 &&& (1023 : Int32))), .val (.int (p3 &&& (1023 : Int32))), .val .null, .val (.ref b2), .unset, .unset, .unset, .unset] [])) rfl (hb hby at_46) (by decide) (by decide)
    obtain ⟨b3, g3⟩ : ∃ z, z = h2.size := ⟨_, rfl⟩
    rw [← g3] at A3 D3 st3
    have ne_b2_b3 : b2 ≠ b3 := Nat.ne_of_lt (Nat.lt_of_lt_of_le V_b2.lt (Nat.le_of_eq g3.symm))
    have g_b3 : n0 ≤ b3 := Nat.le_trans Z2 (Nat.le_of_eq g3.symm)
    have V_b2 := V_b2.ext E3
    have Z3 : n0 ≤ h3.size := Nat.le_trans Z2 E3.1
    have O3o := O2o.ext E3
    have E_b3 : Exa Z h3 b3 "com/example/leafcutter/leafcutter/Instance$Frames" := A3
    have F_mShared_b3 : Fld Z h3 b3 "com/example/leafcutter/leafcutter/Instance$Frames" "mShared" "Lcom/example/leafcutter/leafcutter/Frame;" .null := D3 (Or.inl (hw _ (List.mem_of_getElem? (i := 11) rfl))) (ty := (.object "com/example/leafcutter/leafcutter/Frame")) (by decide)
    have F_mTask_b3 : Fld Z h3 b3 "com/example/leafcutter/leafcutter/Instance$Frames" "mTask" "Lcom/example/leafcutter/leafcutter/Frame;" .null := D3 (Or.inl (hw _ (List.mem_of_getElem? (i := 29) rfl))) (ty := (.object "com/example/leafcutter/leafcutter/Frame")) (by decide)
    have F_mLength_b3 : Fld Z h3 b3 "com/example/leafcutter/leafcutter/Instance$Frames" "mLength" "J" (.long (0 : Int64)) := D3 (Or.inl (hw _ (List.mem_of_getElem? (i := 31) rfl))) (ty := .long) (by decide)
    obtain ⟨_, _, ⟨T4, L4, k4, n4⟩, -, X4, ⟨Lc4, hQ4, l4, y4, z4⟩, st4⟩ := X3.specialBack hx (y := (⟨"com/example/leafcutter/leafcutter/Instance$Frames", "<init>", "([B[B)V"⟩ : MethodName)) rfl hown (mvT hZ (hw _ (List.mem_of_getElem? (i := 4) rfl))) (mvT hZ (hw _ (List.mem_of_getElem? (i := 5) rfl))) (mvT hZ (hw _ (List.mem_of_getElem? (i := 6) rfl))) (by decide) (backOf (W := 1) (rm1n l Z a0 hw [] b3 b2 .null .null ((.long (0 : Int64))) k2 ((p3 &&& (1023 : Int32))) t1 t2 h3 n0 Z3 E_b3 F_mShared_b3 F_mTask_b3 F_mLength_b3 g_b3 V_b2 ne_b2_b3 BS_TASK BS_SHARED O3o) hZ (hw _ (List.mem_of_getElem? (i := 6) rfl)) (hw _ (List.mem_of_getElem? (i := 3) rfl)) (by decide) (by decide)) (g := (mkF m 54 #[.val (.int p1), .val (.int p2), .val (.int p3), .val (.int (0 : Int32)), .val (.int (p2 &&& (1023 : Int32))), .val (.int (p3 &&& (1023 : Int32))), .val .null, .val (.ref b2), .unset, .unset, .unset, .unset] [(.ref b2), .null, (.ref b3), (.ref b3)])) rfl (by rw [hml]; rfl) (Steps.refl _) (a := b3) (argsL := [.null, (.ref b2)]) (rest := [(.ref b3)]) (lenOf own_pd1 rfl) rfl (by show 2 * 0 + _ ≤ _; exact Nat.le_of_eq rfl) (hb hby at_54) (fun _ _ => ⟨rfl, e3, (by decide : 2 + 1 ≤ _), (by decide : 1026 + 3 ≤ _)⟩)
    dsimp only [Pt.U, Pt.locs, Pt.cells, Pt.slots] at X4 l4 y4 z4 st4 hQ4
    subst l4 y4 z4
    obtain ⟨rfl, N4q, Kq4, P4_0, P4_1, R4_0, R4_1⟩ := hQ4
    have N4 := Fr.app N0 N4q
    have O4o := O3o.keep Kq4 (allS g_b3 all0)
    have V_b2 := V_b2.keep Kq4 (ninS ne_b2_b3 nin0)
    have E_b3 := P4_0
    have F_mLength_b3 := P4_1
    have Z4 : n0 ≤ T4.heap.size := Nat.le_trans Z3 Kq4.1
    obtain ⟨uS, F_mShared_b3⟩ := R4_0
    obtain ⟨uT, F_mTask_b3⟩ := R4_1
    have pre5 : ∀ t, Steps p.tables e below (T4.setTop (mkF m 84 #[.val (.int p1), .val (.int p2), .val (.int p3), .val (.int (0 : Int32)), .val (.int (p2 &&& (1023 : Int32))), .val (.int (p3 &&& (1023 : Int32))), .val .null, .val (.ref b2), .val (.ref b3), .val (.long (((0 : Int64) + (6 : Int64)) + ((p3 &&& (1023 : Int32)).toInt64))), .second, .unset] [])) t → Steps p.tables e below (s₁.setTop (entryFrame m #[(.int p1), (.int p2), (.int p3)] maxLocals)) t := by
      intro t k
      refine pre1 _ ?_
      show Steps p.tables e below (s₁.setTop (mkF m 3 #[.val (.int p1), .val (.int p2), .val (.int p3), .unset, .unset, .unset, .unset, .unset, .unset, .unset, .unset, .unset] [(.int (p1 &&& (1 : Int32)))])) _
      refine XS.ifYes X0.here hx rfl (pc0 := 3) (pc' := 10) rfl (hb hby at_3) rfl ((if0 _ _).trans (teq hc3).1) (by decide) (by decide) ?_
      show Steps p.tables e below (s₁.setTop (mkF m 10 #[.val (.int p1), .val (.int p2), .val (.int p3), .unset, .unset, .unset, .unset, .unset, .unset, .unset, .unset, .unset] [])) _
      refine XS.iconst X0.here hx rfl (hb hby at_10) ?_
      show Steps p.tables e below (s₁.setTop (mkF m 11 #[.val (.int p1), .val (.int p2), .val (.int p3), .unset, .unset, .unset, .unset, .unset, .unset, .unset, .unset, .unset] [(.int (0 : Int32))])) _
      refine XS.istoreN X0.here hx rfl (hb hby at_11) rfl (l' := #[.val (.int p1), .val (.int p2), .val (.int p3), .val (.int (0 : Int32)), .unset, .unset, .unset, .unset, .unset, .unset, .unset, .unset]) rfl ?_
      show Steps p.tables e below (s₁.setTop (mkF m 12 #[.val (.int p1), .val (.int p2), .val (.int p3), .val (.int (0 : Int32)), .unset, .unset, .unset, .unset, .unset, .unset, .unset, .unset] [])) _
      refine XS.iloadN X0.here hx rfl (hb hby at_12) rfl ?_
      show Steps p.tables e below (s₁.setTop (mkF m 13 #[.val (.int p1), .val (.int p2), .val (.int p3), .val (.int (0 : Int32)), .unset, .unset, .unset, .unset, .unset, .unset, .unset, .unset] [(.int p2)])) _
      refine XS.sipush X0.here hx rfl (hb hby at_13) ?_
      show Steps p.tables e below (s₁.setTop (mkF m 16 #[.val (.int p1), .val (.int p2), .val (.int p3), .val (.int (0 : Int32)), .unset, .unset, .unset, .unset, .unset, .unset, .unset, .unset] [(.int (1023 : Int32)), (.int p2)])) _
      refine XS.iand X0.here hx rfl (hb hby at_16) rfl ?_
      show Steps p.tables e below (s₁.setTop (mkF m 17 #[.val (.int p1), .val (.int p2), .val (.int p3), .val (.int (0 : Int32)), .unset, .unset, .unset, .unset, .unset, .unset, .unset, .unset] [(.int (p2 &&& (1023 : Int32)))])) _
      refine XS.istore X0.here hx rfl (hb hby at_17) rfl (l' := #[.val (.int p1), .val (.int p2), .val (.int p3), .val (.int (0 : Int32)), .val (.int (p2 &&& (1023 : Int32))), .unset, .unset, .unset, .unset, .unset, .unset, .unset]) rfl ?_
      show Steps p.tables e below (s₁.setTop (mkF m 19 #[.val (.int p1), .val (.int p2), .val (.int p3), .val (.int (0 : Int32)), .val (.int (p2 &&& (1023 : Int32))), .unset, .unset, .unset, .unset, .unset, .unset, .unset] [])) _
      refine XS.iloadN X0.here hx rfl (hb hby at_19) rfl ?_
      show Steps p.tables e below (s₁.setTop (mkF m 20 #[.val (.int p1), .val (.int p2), .val (.int p3), .val (.int (0 : Int32)), .val (.int (p2 &&& (1023 : Int32))), .unset, .unset, .unset, .unset, .unset, .unset, .unset] [(.int p3)])) _
      refine XS.sipush X0.here hx rfl (hb hby at_20) ?_
      show Steps p.tables e below (s₁.setTop (mkF m 23 #[.val (.int p1), .val (.int p2), .val (.int p3), .val (.int (0 : Int32)), .val (.int (p2 &&& (1023 : Int32))), .unset, .unset, .unset, .unset, .unset, .unset, .unset] [(.int (1023 : Int32)), (.int p3)])) _
      refine XS.iand X0.here hx rfl (hb hby at_23) rfl ?_
      show Steps p.tables e below (s₁.setTop (mkF m 24 #[.val (.int p1), .val (.int p2), .val (.int p3), .val (.int (0 : Int32)), .val (.int (p2 &&& (1023 : Int32))), .unset, .unset, .unset, .unset, .unset, .unset, .unset] [(.int (p3 &&& (1023 : Int32)))])) _
      refine XS.istore X0.here hx rfl (hb hby at_24) rfl (l' := #[.val (.int p1), .val (.int p2), .val (.int p3), .val (.int (0 : Int32)), .val (.int (p2 &&& (1023 : Int32))), .val (.int (p3 &&& (1023 : Int32))), .unset, .unset, .unset, .unset, .unset, .unset]) rfl ?_
      show Steps p.tables e below (s₁.setTop (mkF m 26 #[.val (.int p1), .val (.int p2), .val (.int p3), .val (.int (0 : Int32)), .val (.int (p2 &&& (1023 : Int32))), .val (.int (p3 &&& (1023 : Int32))), .unset, .unset, .unset, .unset, .unset, .unset] [])) _
      refine XS.iloadN X0.here hx rfl (hb hby at_26) rfl ?_
      show Steps p.tables e below (s₁.setTop (mkF m 27 #[.val (.int p1), .val (.int p2), .val (.int p3), .val (.int (0 : Int32)), .val (.int (p2 &&& (1023 : Int32))), .val (.int (p3 &&& (1023 : Int32))), .unset, .unset, .unset, .unset, .unset, .unset] [(.int (0 : Int32))])) _
      refine XS.ifYes X0.here hx rfl (pc0 := 27) (pc' := 37) rfl (hb hby at_27) rfl ((if0 _ _).trans (teq (by decide : ((0 : Int32) = (0 : Int32)))).1) (by decide) (by decide) ?_
      show Steps p.tables e below (s₁.setTop (mkF m 37 #[.val (.int p1), .val (.int p2), .val (.int p3), .val (.int (0 : Int32)), .val (.int (p2 &&& (1023 : Int32))), .val (.int (p3 &&& (1023 : Int32))), .unset, .unset, .unset, .unset, .unset, .unset] [])) _
      refine XS.aconstNull X0.here hx rfl (hb hby at_37) ?_
      show Steps p.tables e below (s₁.setTop (mkF m 38 #[.val (.int p1), .val (.int p2), .val (.int p3), .val (.int (0 : Int32)), .val (.int (p2 &&& (1023 : Int32))), .val (.int (p3 &&& (1023 : Int32))), .unset, .unset, .unset, .unset, .unset, .unset] [.null])) _
      refine XS.astore X0.here hx rfl (hb hby at_38) rfl rfl (l' := #[.val (.int p1), .val (.int p2), .val (.int p3), .val (.int (0 : Int32)), .val (.int (p2 &&& (1023 : Int32))), .val (.int (p3 &&& (1023 : Int32))), .val .null, .unset, .unset, .unset, .unset, .unset]) rfl ?_
      show Steps p.tables e below (s₁.setTop (mkF m 40 #[.val (.int p1), .val (.int p2), .val (.int p3), .val (.int (0 : Int32)), .val (.int (p2 &&& (1023 : Int32))), .val (.int (p3 &&& (1023 : Int32))), .val .null, .unset, .unset, .unset, .unset, .unset] [])) _
      refine XS.iload X0.here hx rfl (hb hby at_40) rfl ?_
      show Steps p.tables e below (s₁.setTop (mkF m 42 #[.val (.int p1), .val (.int p2), .val (.int p3), .val (.int (0 : Int32)), .val (.int (p2 &&& (1023 : Int32))), .val (.int (p3 &&& (1023 : Int32))), .val .null, .unset, .unset, .unset, .unset, .unset] [(.int (p3 &&& (1023 : Int32)))])) _
      refine st2 _ ?_
      show Steps p.tables e below (T2.setTop (mkF m 44 #[.val (.int p1), .val (.int p2), .val (.int p3), .val (.int (0 : Int32)), .val (.int (p2 &&& (1023 : Int32))), .val (.int (p3 &&& (1023 : Int32))), .val .null, .unset, .unset, .unset, .unset, .unset] [(.ref b2)])) _
      refine XS.astore X2.here hx rfl (hb hby at_44) rfl rfl (l' := #[.val (.int p1), .val (.int p2), .val (.int p3), .val (.int (0 : Int32)), .val (.int (p2 &&& (1023 : Int32))), .val (.int (p3 &&& (1023 : Int32))), .val .null, .val (.ref b2), .unset, .unset, .unset, .unset]) rfl ?_
      show Steps p.tables e below (T2.setTop (mkF m 46 #[.val (.int p1), .val (.int p2), .val (.int p3), .val (.int (0 : Int32)), .val (.int (p2 &&& (1023 : Int32))), .val (.int (p3 &&& (1023 : Int32))), .val .null, .val (.ref b2), .unset, .unset, .unset, .unset] [])) _
      refine st3 _ ?_
      show Steps p.tables e below (T3.setTop (mkF m 49 #[.val (.int p1), .val (.int p2), .val (.int p3), .val (.int (0 : Int32)), .val (.int (p2 &&& (1023 : Int32))), .val (.int (p3 &&& (1023 : Int32))), .val .null, .val (.ref b2), .unset, .unset, .unset, .unset] [(.ref b3)])) _
      refine XS.dup X3.here hx rfl (hb hby at_49) rfl rfl ?_
      show Steps p.tables e below (T3.setTop (mkF m 50 #[.val (.int p1), .val (.int p2), .val (.int p3), .val (.int (0 : Int32)), .val (.int (p2 &&& (1023 : Int32))), .val (.int (p3 &&& (1023 : Int32))), .val .null, .val (.ref b2), .unset, .unset, .unset, .unset] [(.ref b3), (.ref b3)])) _
      refine XS.aload X3.here hx rfl (hb hby at_50) rfl rfl ?_
      show Steps p.tables e below (T3.setTop (mkF m 52 #[.val (.int p1), .val (.int p2), .val (.int p3), .val (.int (0 : Int32)), .val (.int (p2 &&& (1023 : Int32))), .val (.int (p3 &&& (1023 : Int32))), .val .null, .val (.ref b2), .unset, .unset, .unset, .unset] [.null, (.ref b3), (.ref b3)])) _
      refine XS.aload X3.here hx rfl (hb hby at_52) rfl rfl ?_
      show Steps p.tables e below (T3.setTop (mkF m 54 #[.val (.int p1), .val (.int p2), .val (.int p3), .val (.int (0 : Int32)), .val (.int (p2 &&& (1023 : Int32))), .val (.int (p3 &&& (1023 : Int32))), .val .null, .val (.ref b2), .unset, .unset, .unset, .unset] [(.ref b2), .null, (.ref b3), (.ref b3)])) _
      refine st4.trans ?_
      show Steps p.tables e below (T4.setTop (mkF m 57 #[.val (.int p1), .val (.int p2), .val (.int p3), .val (.int (0 : Int32)), .val (.int (p2 &&& (1023 : Int32))), .val (.int (p3 &&& (1023 : Int32))), .val .null, .val (.ref b2), .unset, .unset, .unset, .unset] [(.ref b3)])) _
      refine XS.astore X4.here hx rfl (hb hby at_57) rfl rfl (l' := #[.val (.int p1), .val (.int p2), .val (.int p3), .val (.int (0 : Int32)), .val (.int (p2 &&& (1023 : Int32))), .val (.int (p3 &&& (1023 : Int32))), .val .null, .val (.ref b2), .val (.ref b3), .unset, .unset, .unset]) rfl ?_
      show Steps p.tables e below (T4.setTop (mkF m 59 #[.val (.int p1), .val (.int p2), .val (.int p3), .val (.int (0 : Int32)), .val (.int (p2 &&& (1023 : Int32))), .val (.int (p3 &&& (1023 : Int32))), .val .null, .val (.ref b2), .val (.ref b3), .unset, .unset, .unset] [])) _
      refine XS.iloadN X4.here hx rfl (hb hby at_59) rfl ?_
      show Steps p.tables e below (T4.setTop (mkF m 60 #[.val (.int p1), .val (.int p2), .val (.int p3), .val (.int (0 : Int32)), .val (.int (p2 &&& (1023 : Int32))), .val (.int (p3 &&& (1023 : Int32))), .val .null, .val (.ref b2), .val (.ref b3), .unset, .unset, .unset] [(.int (0 : Int32))])) _
      refine XS.ifYes X4.here hx rfl (pc0 := 60) (pc' := 73) rfl (hb hby at_60) rfl ((if0 _ _).trans (teq (by decide : ((0 : Int32) = (0 : Int32)))).1) (by decide) (by decide) ?_
      show Steps p.tables e below (T4.setTop (mkF m 73 #[.val (.int p1), .val (.int p2), .val (.int p3), .val (.int (0 : Int32)), .val (.int (p2 &&& (1023 : Int32))), .val (.int (p3 &&& (1023 : Int32))), .val .null, .val (.ref b2), .val (.ref b3), .unset, .unset, .unset] [])) _
      refine XS.lconst X4.here hx rfl (hb hby at_73) ?_
      show Steps p.tables e below (T4.setTop (mkF m 74 #[.val (.int p1), .val (.int p2), .val (.int p3), .val (.int (0 : Int32)), .val (.int (p2 &&& (1023 : Int32))), .val (.int (p3 &&& (1023 : Int32))), .val .null, .val (.ref b2), .val (.ref b3), .unset, .unset, .unset] [(.long (0 : Int64))])) _
      refine X4.ldc2J hx hown (mvT hZ (hw _ (List.mem_of_getElem? (i := 32) rfl))) rfl (hb hby at_74) ?_
      show Steps p.tables e below (T4.setTop (mkF m 77 #[.val (.int p1), .val (.int p2), .val (.int p3), .val (.int (0 : Int32)), .val (.int (p2 &&& (1023 : Int32))), .val (.int (p3 &&& (1023 : Int32))), .val .null, .val (.ref b2), .val (.ref b3), .unset, .unset, .unset] [(.long (6 : Int64)), (.long (0 : Int64))])) _
      refine XS.ladd X4.here hx rfl (hb hby at_77) rfl ?_
      show Steps p.tables e below (T4.setTop (mkF m 78 #[.val (.int p1), .val (.int p2), .val (.int p3), .val (.int (0 : Int32)), .val (.int (p2 &&& (1023 : Int32))), .val (.int (p3 &&& (1023 : Int32))), .val .null, .val (.ref b2), .val (.ref b3), .unset, .unset, .unset] [(.long ((0 : Int64) + (6 : Int64)))])) _
      refine XS.iload X4.here hx rfl (hb hby at_78) rfl ?_
      show Steps p.tables e below (T4.setTop (mkF m 80 #[.val (.int p1), .val (.int p2), .val (.int p3), .val (.int (0 : Int32)), .val (.int (p2 &&& (1023 : Int32))), .val (.int (p3 &&& (1023 : Int32))), .val .null, .val (.ref b2), .val (.ref b3), .unset, .unset, .unset] [(.int (p3 &&& (1023 : Int32))), (.long ((0 : Int64) + (6 : Int64)))])) _
      refine XS.i2l X4.here hx rfl (hb hby at_80) rfl ?_
      show Steps p.tables e below (T4.setTop (mkF m 81 #[.val (.int p1), .val (.int p2), .val (.int p3), .val (.int (0 : Int32)), .val (.int (p2 &&& (1023 : Int32))), .val (.int (p3 &&& (1023 : Int32))), .val .null, .val (.ref b2), .val (.ref b3), .unset, .unset, .unset] [(.long ((p3 &&& (1023 : Int32)).toInt64)), (.long ((0 : Int64) + (6 : Int64)))])) _
      refine XS.ladd X4.here hx rfl (hb hby at_81) rfl ?_
      show Steps p.tables e below (T4.setTop (mkF m 82 #[.val (.int p1), .val (.int p2), .val (.int p3), .val (.int (0 : Int32)), .val (.int (p2 &&& (1023 : Int32))), .val (.int (p3 &&& (1023 : Int32))), .val .null, .val (.ref b2), .val (.ref b3), .unset, .unset, .unset] [(.long (((0 : Int64) + (6 : Int64)) + ((p3 &&& (1023 : Int32)).toInt64)))])) _
      refine XS.lstore X4.here hx rfl (hb hby at_82) rfl (l' := #[.val (.int p1), .val (.int p2), .val (.int p3), .val (.int (0 : Int32)), .val (.int (p2 &&& (1023 : Int32))), .val (.int (p3 &&& (1023 : Int32))), .val .null, .val (.ref b2), .val (.ref b3), .val (.long (((0 : Int64) + (6 : Int64)) + ((p3 &&& (1023 : Int32)).toInt64))), .second, .unset]) rfl ?_
      exact k
    obtain ⟨w11, hw11, pre6⟩ : ∃ (w11 : Int32), (w11 = own_rest (((0 : Int64) + (6 : Int64)) + ((p3 &&& (1023 : Int32)).toInt64))) ∧ ∀ t, Steps p.tables e below (T4.setTop (mkF m 98 #[.val (.int p1), .val (.int p2), .val (.int p3), .val (.int (0 : Int32)), .val (.int (p2 &&& (1023 : Int32))), .val (.int (p3 &&& (1023 : Int32))), .val .null, .val (.ref b2), .val (.ref b3), .val (.long (((0 : Int64) + (6 : Int64)) + ((p3 &&& (1023 : Int32)).toInt64))), .second, .unset] [(.int w11)])) t → Steps p.tables e below (s₁.setTop (entryFrame m #[(.int p1), (.int p2), (.int p3)] maxLocals)) t := by
      have pre7 : ∀ t, Steps p.tables e below (T4.setTop (mkF m 90 #[.val (.int p1), .val (.int p2), .val (.int p3), .val (.int (0 : Int32)), .val (.int (p2 &&& (1023 : Int32))), .val (.int (p3 &&& (1023 : Int32))), .val .null, .val (.ref b2), .val (.ref b3), .val (.long (((0 : Int64) + (6 : Int64)) + ((p3 &&& (1023 : Int32)).toInt64))), .second, .unset] [(.int (lcmpW (((0 : Int64) + (6 : Int64)) + ((p3 &&& (1023 : Int32)).toInt64)) (512 : Int64)))])) t → Steps p.tables e below (s₁.setTop (entryFrame m #[(.int p1), (.int p2), (.int p3)] maxLocals)) t := by
        intro t k
        refine pre5 _ ?_
        show Steps p.tables e below (T4.setTop (mkF m 84 #[.val (.int p1), .val (.int p2), .val (.int p3), .val (.int (0 : Int32)), .val (.int (p2 &&& (1023 : Int32))), .val (.int (p3 &&& (1023 : Int32))), .val .null, .val (.ref b2), .val (.ref b3), .val (.long (((0 : Int64) + (6 : Int64)) + ((p3 &&& (1023 : Int32)).toInt64))), .second, .unset] [])) _
        refine XS.lload X4.here hx rfl (hb hby at_84) rfl ?_
        show Steps p.tables e below (T4.setTop (mkF m 86 #[.val (.int p1), .val (.int p2), .val (.int p3), .val (.int (0 : Int32)), .val (.int (p2 &&& (1023 : Int32))), .val (.int (p3 &&& (1023 : Int32))), .val .null, .val (.ref b2), .val (.ref b3), .val (.long (((0 : Int64) + (6 : Int64)) + ((p3 &&& (1023 : Int32)).toInt64))), .second, .unset] [(.long (((0 : Int64) + (6 : Int64)) + ((p3 &&& (1023 : Int32)).toInt64)))])) _
        refine X4.ldc2J hx hown (mvT hZ (hw _ (List.mem_of_getElem? (i := 33) rfl))) rfl (hb hby at_86) ?_
        show Steps p.tables e below (T4.setTop (mkF m 89 #[.val (.int p1), .val (.int p2), .val (.int p3), .val (.int (0 : Int32)), .val (.int (p2 &&& (1023 : Int32))), .val (.int (p3 &&& (1023 : Int32))), .val .null, .val (.ref b2), .val (.ref b3), .val (.long (((0 : Int64) + (6 : Int64)) + ((p3 &&& (1023 : Int32)).toInt64))), .second, .unset] [(.long (512 : Int64)), (.long (((0 : Int64) + (6 : Int64)) + ((p3 &&& (1023 : Int32)).toInt64)))])) _
        refine XS.lcmp X4.here hx rfl (hb hby at_89) rfl ?_
        exact k
      by_cases hc90 : (512 : Int64) < (((0 : Int64) + (6 : Int64)) + ((p3 &&& (1023 : Int32)).toInt64))
      · -- hc90 
        refine ⟨(1 : Int32), by exact own_rest1 hc90, fun t k => ?_⟩
        refine pre7 _ ?_
        show Steps p.tables e below (T4.setTop (mkF m 90 #[.val (.int p1), .val (.int p2), .val (.int p3), .val (.int (0 : Int32)), .val (.int (p2 &&& (1023 : Int32))), .val (.int (p3 &&& (1023 : Int32))), .val .null, .val (.ref b2), .val (.ref b3), .val (.long (((0 : Int64) + (6 : Int64)) + ((p3 &&& (1023 : Int32)).toInt64))), .second, .unset] [(.int (lcmpW (((0 : Int64) + (6 : Int64)) + ((p3 &&& (1023 : Int32)).toInt64)) (512 : Int64)))])) _
        refine XS.ifNo X4.here hx rfl (hb hby at_90) rfl ((if0 _ _).trans (tlt ((lw_gt (((0 : Int64) + (6 : Int64)) + ((p3 &&& (1023 : Int32)).toInt64)) (512 : Int64)).mpr hc90)).2.2.2) ?_
        show Steps p.tables e below (T4.setTop (mkF m 93 #[.val (.int p1), .val (.int p2), .val (.int p3), .val (.int (0 : Int32)), .val (.int (p2 &&& (1023 : Int32))), .val (.int (p3 &&& (1023 : Int32))), .val .null, .val (.ref b2), .val (.ref b3), .val (.long (((0 : Int64) + (6 : Int64)) + ((p3 &&& (1023 : Int32)).toInt64))), .second, .unset] [])) _
        refine XS.iconst X4.here hx rfl (hb hby at_93) ?_
        show Steps p.tables e below (T4.setTop (mkF m 94 #[.val (.int p1), .val (.int p2), .val (.int p3), .val (.int (0 : Int32)), .val (.int (p2 &&& (1023 : Int32))), .val (.int (p3 &&& (1023 : Int32))), .val .null, .val (.ref b2), .val (.ref b3), .val (.long (((0 : Int64) + (6 : Int64)) + ((p3 &&& (1023 : Int32)).toInt64))), .second, .unset] [(.int (1 : Int32))])) _
        refine XS.goto X4.here hx rfl (pc0 := 94) (pc' := 98) rfl (hb hby at_94) (by decide) (by decide) ?_
        exact k
      · -- hc90 not
        refine ⟨(0 : Int32), by exact own_rest0 hc90, fun t k => ?_⟩
        refine pre7 _ ?_
        show Steps p.tables e below (T4.setTop (mkF m 90 #[.val (.int p1), .val (.int p2), .val (.int p3), .val (.int (0 : Int32)), .val (.int (p2 &&& (1023 : Int32))), .val (.int (p3 &&& (1023 : Int32))), .val .null, .val (.ref b2), .val (.ref b3), .val (.long (((0 : Int64) + (6 : Int64)) + ((p3 &&& (1023 : Int32)).toInt64))), .second, .unset] [(.int (lcmpW (((0 : Int64) + (6 : Int64)) + ((p3 &&& (1023 : Int32)).toInt64)) (512 : Int64)))])) _
        refine XS.ifYes X4.here hx rfl (pc0 := 90) (pc' := 97) rfl (hb hby at_90) rfl ((if0 _ _).trans (flt (fun q => hc90 ((lw_gt (((0 : Int64) + (6 : Int64)) + ((p3 &&& (1023 : Int32)).toInt64)) (512 : Int64)).mp q))).2.2.2) (by decide) (by decide) ?_
        show Steps p.tables e below (T4.setTop (mkF m 97 #[.val (.int p1), .val (.int p2), .val (.int p3), .val (.int (0 : Int32)), .val (.int (p2 &&& (1023 : Int32))), .val (.int (p3 &&& (1023 : Int32))), .val .null, .val (.ref b2), .val (.ref b3), .val (.long (((0 : Int64) + (6 : Int64)) + ((p3 &&& (1023 : Int32)).toInt64))), .second, .unset] [])) _
        refine XS.iconst X4.here hx rfl (hb hby at_97) ?_
        exact k
    obtain ⟨cq8, kq8, q8a, q8b, q8c⟩ := isOf hZ rfl E_b3
    obtain ⟨_, _, ⟨T8, L8, k8, n8⟩, -, X8, ⟨Lc8, hQ8, l8, y8, z8⟩, st8⟩ := X4.virtualBack hx (y := (⟨"com/example/leafcutter/leafcutter/Instance$Frames", "hasRest", "()Z"⟩ : MethodName)) (z := (⟨"com/example/leafcutter/leafcutter/Instance$Frames", "hasRest", "()Z"⟩ : MethodName)) hown (mvT hZ (hw _ (List.mem_of_getElem? (i := 34) rfl))) (mvT hZ (hw _ (List.mem_of_getElem? (i := 35) rfl))) (notFace_of_selects (args := #[]) (mvT hZ (hw _ (List.mem_of_getElem? (i := 37) rfl)))) (mvT hZ (hw _ (List.mem_of_getElem? (i := 37) rfl))) (mvT hZ (hw _ (List.mem_of_getElem? (i := 36) rfl))) (by decide) (backOf (W := 0) (rm4 l Z a0 hw [] b3 (((((0 : Int32) + (6 : Int32)) + (p3 &&& (1023 : Int32))).toInt64)) T4.heap n0 Z4 F_mLength_b3) hZ (hw _ (List.mem_of_getElem? (i := 38) rfl)) (hw _ (List.mem_of_getElem? (i := 3) rfl)) (by decide) (by decide)) q8a q8c (g := (mkF m 102 #[.val (.int p1), .val (.int p2), .val (.int p3), .val (.int (0 : Int32)), .val (.int (p2 &&& (1023 : Int32))), .val (.int (p3 &&& (1023 : Int32))), .val .null, .val (.ref b2), .val (.ref b3), .val (.long (((0 : Int64) + (6 : Int64)) + ((p3 &&& (1023 : Int32)).toInt64))), .second, .val (.int w11)] [(.ref b3)])) rfl (by rw [hml]; rfl) (Steps.refl _) (argsL := []) (rest := []) (lenOf own_pd2 rfl) rfl (by show 2 * 0 + _ ≤ _; exact Nat.le_of_eq rfl) (hb hby at_102) (fun _ _ => ⟨rfl, rfl, (by decide : 3 + 0 ≤ _), (by decide : 1029 + 0 ≤ _)⟩)
    dsimp only [Pt.U, Pt.locs, Pt.cells, Pt.slots] at X8 l8 y8 z8 st8 hQ8
    subst l8 y8 z8
    obtain ⟨rfl, N8q, e8⟩ := hQ8
    have N8 := Fr.app N4 N8q
    obtain ⟨cq9, kq9, q9a, q9b, q9c⟩ := isOf hZ e8 E_b3
    obtain ⟨_, _, ⟨T9, L9, k9, n9⟩, -, X9, ⟨Lc9, hQ9, l9, y9, z9⟩, st9⟩ := X8.virtualBack hx (y := (⟨"com/example/leafcutter/leafcutter/Instance$Frames", "drop", "()V"⟩ : MethodName)) (z := (⟨"com/example/leafcutter/leafcutter/Instance$Frames", "drop", "()V"⟩ : MethodName)) hown (mvT hZ (hw _ (List.mem_of_getElem? (i := 40) rfl))) (mvT hZ (hw _ (List.mem_of_getElem? (i := 41) rfl))) (notFace_of_selects (args := #[]) (mvT hZ (hw _ (List.mem_of_getElem? (i := 43) rfl)))) (mvT hZ (hw _ (List.mem_of_getElem? (i := 43) rfl))) (mvT hZ (hw _ (List.mem_of_getElem? (i := 42) rfl))) (by decide) (backOf (W := 0) (rm5 l Z a0 hw [] b3 uS uT ((.long ((((0 : Int32) + (6 : Int32)) + (p3 &&& (1023 : Int32))).toInt64))) T4.heap n0 Z4 E_b3 F_mShared_b3 F_mTask_b3 F_mLength_b3 g_b3) hZ (hw _ (List.mem_of_getElem? (i := 44) rfl)) (hw _ (List.mem_of_getElem? (i := 3) rfl)) (by decide) (by decide)) q9a q9c (g := (mkF m 114 #[.val (.int p1), .val (.int p2), .val (.int p3), .val (.int (0 : Int32)), .val (.int (p2 &&& (1023 : Int32))), .val (.int (p3 &&& (1023 : Int32))), .val .null, .val (.ref b2), .val (.ref b3), .val (.long (((0 : Int64) + (6 : Int64)) + ((p3 &&& (1023 : Int32)).toInt64))), .second, .val (.int w11)] [(.ref b3)])) rfl (by rw [hml]; rfl) (Steps.refl _) (argsL := []) (rest := []) (lenOf own_pd3 rfl) rfl (by show 2 * 0 + _ ≤ _; exact Nat.le_of_eq rfl) (hb hby at_114) (fun _ _ => ⟨rfl, e8, (by decide : 3 + 0 ≤ _), (by decide : 1029 + 0 ≤ _)⟩)
    dsimp only [Pt.U, Pt.locs, Pt.cells, Pt.slots] at X9 l9 y9 z9 st9 hQ9
    subst l9 y9 z9
    obtain ⟨rfl, N9q, Kq9, P9_0, P9_1⟩ := hQ9
    have N9 := Fr.app N8 N9q
    have O9o := O4o.keep Kq9 (allS g_b3 all0)
    have V_b2 := V_b2.keep Kq9 (ninS ne_b2_b3 nin0)
    have E_b3 := P9_0
    have F_mLength_b3 := P9_1
    have Z9 : n0 ≤ T9.heap.size := Nat.le_trans Z4 Kq9.1
    obtain ⟨cq10, kq10, q10a, q10b, q10c⟩ := isOf hZ rfl E_b3
    obtain ⟨_, _, ⟨T10, L10, k10, n10⟩, -, X10, ⟨Lc10, hQ10, l10, y10, z10⟩, st10⟩ := X9.virtualBack hx (y := (⟨"com/example/leafcutter/leafcutter/Instance$Frames", "hasRest", "()Z"⟩ : MethodName)) (z := (⟨"com/example/leafcutter/leafcutter/Instance$Frames", "hasRest", "()Z"⟩ : MethodName)) hown (mvT hZ (hw _ (List.mem_of_getElem? (i := 34) rfl))) (mvT hZ (hw _ (List.mem_of_getElem? (i := 35) rfl))) (notFace_of_selects (args := #[]) (mvT hZ (hw _ (List.mem_of_getElem? (i := 37) rfl)))) (mvT hZ (hw _ (List.mem_of_getElem? (i := 37) rfl))) (mvT hZ (hw _ (List.mem_of_getElem? (i := 36) rfl))) (by decide) (backOf (W := 0) (rm4 l Z a0 hw [] b3 ((0 : Int64)) T9.heap n0 Z9 F_mLength_b3) hZ (hw _ (List.mem_of_getElem? (i := 38) rfl)) (hw _ (List.mem_of_getElem? (i := 3) rfl)) (by decide) (by decide)) q10a q10c (g := (mkF m 119 #[.val (.int p1), .val (.int p2), .val (.int p3), .val (.int (0 : Int32)), .val (.int (p2 &&& (1023 : Int32))), .val (.int (p3 &&& (1023 : Int32))), .val .null, .val (.ref b2), .val (.ref b3), .val (.long (((0 : Int64) + (6 : Int64)) + ((p3 &&& (1023 : Int32)).toInt64))), .second, .val (.int w11)] [(.ref b3)])) rfl (by rw [hml]; rfl) (Steps.refl _) (argsL := []) (rest := []) (lenOf own_pd2 rfl) rfl (by show 2 * 0 + _ ≤ _; exact Nat.le_of_eq rfl) (hb hby at_119) (fun _ _ => ⟨rfl, rfl, (by decide : 3 + 0 ≤ _), (by decide : 1029 + 0 ≤ _)⟩)
    dsimp only [Pt.U, Pt.locs, Pt.cells, Pt.slots] at X10 l10 y10 z10 st10 hQ10
    subst l10 y10 z10
    obtain ⟨rfl, N10q, e10⟩ := hQ10
    have N10 := Fr.app N9 N10q
    have pre11 : ∀ t, Steps p.tables e below (T10.setTop (mkF m 130 #[.val (.int p1), .val (.int p2), .val (.int p3), .val (.int (0 : Int32)), .val (.int (p2 &&& (1023 : Int32))), .val (.int (p3 &&& (1023 : Int32))), .val .null, .val (.ref b2), .val (.ref b3), .val (.long (((0 : Int64) + (6 : Int64)) + ((p3 &&& (1023 : Int32)).toInt64))), .second, .val (.int w11)] [(.int (1 : Int32))])) t → Steps p.tables e below (s₁.setTop (entryFrame m #[(.int p1), (.int p2), (.int p3)] maxLocals)) t := by
      intro t k
      refine pre6 _ ?_
      show Steps p.tables e below (T4.setTop (mkF m 98 #[.val (.int p1), .val (.int p2), .val (.int p3), .val (.int (0 : Int32)), .val (.int (p2 &&& (1023 : Int32))), .val (.int (p3 &&& (1023 : Int32))), .val .null, .val (.ref b2), .val (.ref b3), .val (.long (((0 : Int64) + (6 : Int64)) + ((p3 &&& (1023 : Int32)).toInt64))), .second, .unset] [(.int w11)])) _
      refine XS.istore X4.here hx rfl (hb hby at_98) rfl (l' := #[.val (.int p1), .val (.int p2), .val (.int p3), .val (.int (0 : Int32)), .val (.int (p2 &&& (1023 : Int32))), .val (.int (p3 &&& (1023 : Int32))), .val .null, .val (.ref b2), .val (.ref b3), .val (.long (((0 : Int64) + (6 : Int64)) + ((p3 &&& (1023 : Int32)).toInt64))), .second, .val (.int w11)]) rfl ?_
      show Steps p.tables e below (T4.setTop (mkF m 100 #[.val (.int p1), .val (.int p2), .val (.int p3), .val (.int (0 : Int32)), .val (.int (p2 &&& (1023 : Int32))), .val (.int (p3 &&& (1023 : Int32))), .val .null, .val (.ref b2), .val (.ref b3), .val (.long (((0 : Int64) + (6 : Int64)) + ((p3 &&& (1023 : Int32)).toInt64))), .second, .val (.int w11)] [])) _
      refine XS.aload X4.here hx rfl (hb hby at_100) rfl rfl ?_
      show Steps p.tables e below (T4.setTop (mkF m 102 #[.val (.int p1), .val (.int p2), .val (.int p3), .val (.int (0 : Int32)), .val (.int (p2 &&& (1023 : Int32))), .val (.int (p3 &&& (1023 : Int32))), .val .null, .val (.ref b2), .val (.ref b3), .val (.long (((0 : Int64) + (6 : Int64)) + ((p3 &&& (1023 : Int32)).toInt64))), .second, .val (.int w11)] [(.ref b3)])) _
      refine st8.trans ?_
      show Steps p.tables e below (T8.setTop (mkF m 105 #[.val (.int p1), .val (.int p2), .val (.int p3), .val (.int (0 : Int32)), .val (.int (p2 &&& (1023 : Int32))), .val (.int (p3 &&& (1023 : Int32))), .val .null, .val (.ref b2), .val (.ref b3), .val (.long (((0 : Int64) + (6 : Int64)) + ((p3 &&& (1023 : Int32)).toInt64))), .second, .val (.int w11)] [(.int (own_rest ((((0 : Int32) + (6 : Int32)) + (p3 &&& (1023 : Int32))).toInt64)))])) _
      refine XS.iload X8.here hx rfl (hb hby at_105) rfl ?_
      show Steps p.tables e below (T8.setTop (mkF m 107 #[.val (.int p1), .val (.int p2), .val (.int p3), .val (.int (0 : Int32)), .val (.int (p2 &&& (1023 : Int32))), .val (.int (p3 &&& (1023 : Int32))), .val .null, .val (.ref b2), .val (.ref b3), .val (.long (((0 : Int64) + (6 : Int64)) + ((p3 &&& (1023 : Int32)).toInt64))), .second, .val (.int w11)] [(.int w11), (.int (own_rest ((((0 : Int32) + (6 : Int32)) + (p3 &&& (1023 : Int32))).toInt64)))])) _
      refine XS.icmpYes X8.here hx rfl (pc0 := 107) (pc' := 112) rfl (hb hby at_107) rfl (teq ((congrArg own_rest (own_lenN p3)).trans hw11.symm : (own_rest ((((0 : Int32) + (6 : Int32)) + (p3 &&& (1023 : Int32))).toInt64)) = w11)).1 (by decide) (by decide) ?_
      show Steps p.tables e below (T8.setTop (mkF m 112 #[.val (.int p1), .val (.int p2), .val (.int p3), .val (.int (0 : Int32)), .val (.int (p2 &&& (1023 : Int32))), .val (.int (p3 &&& (1023 : Int32))), .val .null, .val (.ref b2), .val (.ref b3), .val (.long (((0 : Int64) + (6 : Int64)) + ((p3 &&& (1023 : Int32)).toInt64))), .second, .val (.int w11)] [])) _
      refine XS.aload X8.here hx rfl (hb hby at_112) rfl rfl ?_
      show Steps p.tables e below (T8.setTop (mkF m 114 #[.val (.int p1), .val (.int p2), .val (.int p3), .val (.int (0 : Int32)), .val (.int (p2 &&& (1023 : Int32))), .val (.int (p3 &&& (1023 : Int32))), .val .null, .val (.ref b2), .val (.ref b3), .val (.long (((0 : Int64) + (6 : Int64)) + ((p3 &&& (1023 : Int32)).toInt64))), .second, .val (.int w11)] [(.ref b3)])) _
      refine st9.trans ?_
      show Steps p.tables e below (T9.setTop (mkF m 117 #[.val (.int p1), .val (.int p2), .val (.int p3), .val (.int (0 : Int32)), .val (.int (p2 &&& (1023 : Int32))), .val (.int (p3 &&& (1023 : Int32))), .val .null, .val (.ref b2), .val (.ref b3), .val (.long (((0 : Int64) + (6 : Int64)) + ((p3 &&& (1023 : Int32)).toInt64))), .second, .val (.int w11)] [])) _
      refine XS.aload X9.here hx rfl (hb hby at_117) rfl rfl ?_
      show Steps p.tables e below (T9.setTop (mkF m 119 #[.val (.int p1), .val (.int p2), .val (.int p3), .val (.int (0 : Int32)), .val (.int (p2 &&& (1023 : Int32))), .val (.int (p3 &&& (1023 : Int32))), .val .null, .val (.ref b2), .val (.ref b3), .val (.long (((0 : Int64) + (6 : Int64)) + ((p3 &&& (1023 : Int32)).toInt64))), .second, .val (.int w11)] [(.ref b3)])) _
      refine st10.trans ?_
      show Steps p.tables e below (T10.setTop (mkF m 122 #[.val (.int p1), .val (.int p2), .val (.int p3), .val (.int (0 : Int32)), .val (.int (p2 &&& (1023 : Int32))), .val (.int (p3 &&& (1023 : Int32))), .val .null, .val (.ref b2), .val (.ref b3), .val (.long (((0 : Int64) + (6 : Int64)) + ((p3 &&& (1023 : Int32)).toInt64))), .second, .val (.int w11)] [(.int (own_rest (0 : Int64)))])) _
      refine XS.ifNo X10.here hx rfl (hb hby at_122) rfl ((if0 _ _).trans (teq (by decide : (own_rest (0 : Int64)) = (0 : Int32))).2) ?_
      show Steps p.tables e below (T10.setTop (mkF m 125 #[.val (.int p1), .val (.int p2), .val (.int p3), .val (.int (0 : Int32)), .val (.int (p2 &&& (1023 : Int32))), .val (.int (p3 &&& (1023 : Int32))), .val .null, .val (.ref b2), .val (.ref b3), .val (.long (((0 : Int64) + (6 : Int64)) + ((p3 &&& (1023 : Int32)).toInt64))), .second, .val (.int w11)] [])) _
      refine XS.iconst X10.here hx rfl (hb hby at_125) ?_
      show Steps p.tables e below (T10.setTop (mkF m 126 #[.val (.int p1), .val (.int p2), .val (.int p3), .val (.int (0 : Int32)), .val (.int (p2 &&& (1023 : Int32))), .val (.int (p3 &&& (1023 : Int32))), .val .null, .val (.ref b2), .val (.ref b3), .val (.long (((0 : Int64) + (6 : Int64)) + ((p3 &&& (1023 : Int32)).toInt64))), .second, .val (.int w11)] [(.int (1 : Int32))])) _
      refine XS.goto X10.here hx rfl (pc0 := 126) (pc' := 130) rfl (hb hby at_126) (by decide) (by decide) ?_
      exact k
    obtain ⟨fs, hr, hrun, hended, hW, hsame⟩ := X10.leave (v := some (.int (1 : Int32))) (fun h => by rw [Bd.returns] at h; cases h)
    refine ⟨_, _, pre11 _ ?_, hrun, hended, _, _, rfl, ?_, ⟨_, rfl⟩, hW, hsame.mono (by decide) (by decide)⟩
    · show Steps p.tables e below (T10.setTop (mkF m 130 #[.val (.int p1), .val (.int p2), .val (.int p3), .val (.int (0 : Int32)), .val (.int (p2 &&& (1023 : Int32))), .val (.int (p3 &&& (1023 : Int32))), .val .null, .val (.ref b2), .val (.ref b3), .val (.long (((0 : Int64) + (6 : Int64)) + ((p3 &&& (1023 : Int32)).toInt64))), .second, .val (.int w11)] [(.int (1 : Int32))])) _
      exact retN X10 hx (t := .boolean) Bd.returns (by simp) (hb hby at_130) hr
    · show own_Q0 Z p1 p2 p3 t1 t2 h0 n0 _ T10.heap _
      rw [e10]
      exact ⟨rfl, N10⟩
  · -- hc3 not
    obtain ⟨T12, h12, k12, X12, e12, E12, A12, st12⟩ := newP X0 hx hZ (hw _ (List.mem_of_getElem? (i := 0) rfl)) e0 (g := (mkF m 32 #[.val (.int p1), .val (.int p2), .val (.int p3), .val (.int (1 : Int32)), .val (.int (p2 &&& (1023 : Int32))), .val (.int (p3 &&& (1023 : Int32))), .unset, .unset, .unset, .unset, .unset, .unset] [(.int (p2 &&& (1023 : Int32)))])) rfl (hb hby at_32) rfl (own_m1 p2) (cap := 1023) (own_m2 p2) (by decide) (by decide) (by decide)
    obtain ⟨b12, g12⟩ : ∃ z, z = h0.size := ⟨_, rfl⟩
    rw [← g12] at A12 st12
    have g_b12 : n0 ≤ b12 := Nat.le_trans Z0 (Nat.le_of_eq g12.symm)
    have Z12 : n0 ≤ h12.size := Nat.le_trans Z0 E12.1
    have O12o := O0.ext E12
    have V_b12 : Arv Z h12 b12 k12 .byte (p2 &&& (1023 : Int32)) [] (.int (0 : Int32)) := Arv.new A12 (own_m1 p2)
    obtain ⟨T13, h13, k13, X13, e13, E13, A13, st13⟩ := newP X12 hx hZ (hw _ (List.mem_of_getElem? (i := 0) rfl)) e12 (g := (mkF m 42 #[.val (.int p1), .val (.int p2), .val (.int p3), .val (.int (1 : Int32)), .val (.int (p2 &&& (1023 : Int32))), .val (.int (p3 &&& (1023 : Int32))), .val (.ref b12), .unset, .unset, .unset, .unset, .unset] [(.int (p3 &&& (1023 : Int32)))])) rfl (hb hby at_42) rfl (own_m1 p3) (cap := 1023) (own_m2 p3) (by decide) (by decide) (by decide)
    obtain ⟨b13, g13⟩ : ∃ z, z = h12.size := ⟨_, rfl⟩
    rw [← g13] at A13 st13
    have ne_b12_b13 : b12 ≠ b13 := Nat.ne_of_lt (Nat.lt_of_lt_of_le V_b12.lt (Nat.le_of_eq g13.symm))
    have g_b13 : n0 ≤ b13 := Nat.le_trans Z12 (Nat.le_of_eq g13.symm)
    have V_b12 := V_b12.ext E13
    have Z13 : n0 ≤ h13.size := Nat.le_trans Z12 E13.1
    have O13o := O12o.ext E13
    have V_b13 : Arv Z h13 b13 k13 .byte (p3 &&& (1023 : Int32)) [] (.int (0 : Int32)) := Arv.new A13 (own_m1 p3)
    obtain ⟨T14, h14, X14, e14, E14, A14, D14, -, st14⟩ := newO X13 hx hZ hown (hw _ (List.mem_of_getElem? (i := 1) rfl)) (hw _ (List.mem_of_getElem? (i := 2) rfl)) (hw _ (List.mem_of_getElem? (i := 3) rfl)) e13 (g := (mkF m 46 #[.val (.int p1), .val (.int p2), .val (.int p3), .val (.int (1 : Int32)), .val (.int (p2 &&& (1023 : Int32))), .val (.int (p3 &&& (1023 : Int32))), .val (.ref b12), .val (.ref b13), .unset, .unset, .unset, .unset] [])) rfl (hb hby at_46) (by decide) (by decide)
    obtain ⟨b14, g14⟩ : ∃ z, z = h13.size := ⟨_, rfl⟩
    rw [← g14] at A14 D14 st14
    have ne_b13_b14 : b13 ≠ b14 := Nat.ne_of_lt (Nat.lt_of_lt_of_le V_b13.lt (Nat.le_of_eq g14.symm))
    have ne_b12_b14 : b12 ≠ b14 := Nat.ne_of_lt (Nat.lt_of_lt_of_le V_b12.lt (Nat.le_of_eq g14.symm))
    have g_b14 : n0 ≤ b14 := Nat.le_trans Z13 (Nat.le_of_eq g14.symm)
    have V_b12 := V_b12.ext E14
    have V_b13 := V_b13.ext E14
    have Z14 : n0 ≤ h14.size := Nat.le_trans Z13 E14.1
    have O14o := O13o.ext E14
    have E_b14 : Exa Z h14 b14 "com/example/leafcutter/leafcutter/Instance$Frames" := A14
    have F_mShared_b14 : Fld Z h14 b14 "com/example/leafcutter/leafcutter/Instance$Frames" "mShared" "Lcom/example/leafcutter/leafcutter/Frame;" .null := D14 (Or.inl (hw _ (List.mem_of_getElem? (i := 11) rfl))) (ty := (.object "com/example/leafcutter/leafcutter/Frame")) (by decide)
    have F_mTask_b14 : Fld Z h14 b14 "com/example/leafcutter/leafcutter/Instance$Frames" "mTask" "Lcom/example/leafcutter/leafcutter/Frame;" .null := D14 (Or.inl (hw _ (List.mem_of_getElem? (i := 29) rfl))) (ty := (.object "com/example/leafcutter/leafcutter/Frame")) (by decide)
    have F_mLength_b14 : Fld Z h14 b14 "com/example/leafcutter/leafcutter/Instance$Frames" "mLength" "J" (.long (0 : Int64)) := D14 (Or.inl (hw _ (List.mem_of_getElem? (i := 31) rfl))) (ty := .long) (by decide)
    obtain ⟨_, _, ⟨T15, L15, k15, n15⟩, -, X15, ⟨Lc15, hQ15, l15, y15, z15⟩, st15⟩ := X14.specialBack hx (y := (⟨"com/example/leafcutter/leafcutter/Instance$Frames", "<init>", "([B[B)V"⟩ : MethodName)) rfl hown (mvT hZ (hw _ (List.mem_of_getElem? (i := 4) rfl))) (mvT hZ (hw _ (List.mem_of_getElem? (i := 5) rfl))) (mvT hZ (hw _ (List.mem_of_getElem? (i := 6) rfl))) (by decide) (backOf (W := 1) (rm1 l Z a0 hw [] b14 b12 b13 .null .null ((.long (0 : Int64))) k12 ((p2 &&& (1023 : Int32))) k13 ((p3 &&& (1023 : Int32))) t1 t2 h14 n0 Z14 E_b14 F_mShared_b14 F_mTask_b14 F_mLength_b14 g_b14 V_b12 V_b13 ne_b12_b14 ne_b13_b14 BS_TASK BS_SHARED O14o) hZ (hw _ (List.mem_of_getElem? (i := 6) rfl)) (hw _ (List.mem_of_getElem? (i := 3) rfl)) (by decide) (by decide)) (g := (mkF m 54 #[.val (.int p1), .val (.int p2), .val (.int p3), .val (.int (1 : Int32)), .val (.int (p2 &&& (1023 : Int32))), .val (.int (p3 &&& (1023 : Int32))), .val (.ref b12), .val (.ref b13), .unset, .unset, .unset, .unset] [(.ref b13), (.ref b12), (.ref b14), (.ref b14)])) rfl (by rw [hml]; rfl) (Steps.refl _) (a := b14) (argsL := [(.ref b12), (.ref b13)]) (rest := [(.ref b14)]) (lenOf own_pd1 rfl) rfl (by show 2 * 0 + _ ≤ _; exact Nat.le_of_eq rfl) (hb hby at_54) (fun _ _ => ⟨rfl, e14, (by decide : 3 + 2 ≤ _), (by decide : 2049 + 6 ≤ _)⟩)
    dsimp only [Pt.U, Pt.locs, Pt.cells, Pt.slots] at X15 l15 y15 z15 st15 hQ15
    subst l15 y15 z15
    obtain ⟨rfl, N15q, Kq15, P15_0, P15_1, R15_0, R15_1⟩ := hQ15
    have N15 := Fr.app N0 N15q
    have O15o := O14o.keep Kq15 (allS g_b14 all0)
    have V_b12 := V_b12.keep Kq15 (ninS ne_b12_b14 nin0)
    have V_b13 := V_b13.keep Kq15 (ninS ne_b13_b14 nin0)
    have E_b14 := P15_0
    have F_mLength_b14 := P15_1
    have Z15 : n0 ≤ T15.heap.size := Nat.le_trans Z14 Kq15.1
    obtain ⟨uS, F_mShared_b14⟩ := R15_0
    obtain ⟨uT, F_mTask_b14⟩ := R15_1
    have pre16 : ∀ t, Steps p.tables e below (T15.setTop (mkF m 84 #[.val (.int p1), .val (.int p2), .val (.int p3), .val (.int (1 : Int32)), .val (.int (p2 &&& (1023 : Int32))), .val (.int (p3 &&& (1023 : Int32))), .val (.ref b12), .val (.ref b13), .val (.ref b14), .val (.long ((((6 : Int64) + ((p2 &&& (1023 : Int32)).toInt64)) + (6 : Int64)) + ((p3 &&& (1023 : Int32)).toInt64))), .second, .unset] [])) t → Steps p.tables e below (s₁.setTop (entryFrame m #[(.int p1), (.int p2), (.int p3)] maxLocals)) t := by
      intro t k
      refine pre1 _ ?_
      show Steps p.tables e below (s₁.setTop (mkF m 3 #[.val (.int p1), .val (.int p2), .val (.int p3), .unset, .unset, .unset, .unset, .unset, .unset, .unset, .unset, .unset] [(.int (p1 &&& (1 : Int32)))])) _
      refine XS.ifNo X0.here hx rfl (hb hby at_3) rfl ((if0 _ _).trans (feq hc3).1) ?_
      show Steps p.tables e below (s₁.setTop (mkF m 6 #[.val (.int p1), .val (.int p2), .val (.int p3), .unset, .unset, .unset, .unset, .unset, .unset, .unset, .unset, .unset] [])) _
      refine XS.iconst X0.here hx rfl (hb hby at_6) ?_
      show Steps p.tables e below (s₁.setTop (mkF m 7 #[.val (.int p1), .val (.int p2), .val (.int p3), .unset, .unset, .unset, .unset, .unset, .unset, .unset, .unset, .unset] [(.int (1 : Int32))])) _
      refine XS.goto X0.here hx rfl (pc0 := 7) (pc' := 11) rfl (hb hby at_7) (by decide) (by decide) ?_
      show Steps p.tables e below (s₁.setTop (mkF m 11 #[.val (.int p1), .val (.int p2), .val (.int p3), .unset, .unset, .unset, .unset, .unset, .unset, .unset, .unset, .unset] [(.int (1 : Int32))])) _
      refine XS.istoreN X0.here hx rfl (hb hby at_11) rfl (l' := #[.val (.int p1), .val (.int p2), .val (.int p3), .val (.int (1 : Int32)), .unset, .unset, .unset, .unset, .unset, .unset, .unset, .unset]) rfl ?_
      show Steps p.tables e below (s₁.setTop (mkF m 12 #[.val (.int p1), .val (.int p2), .val (.int p3), .val (.int (1 : Int32)), .unset, .unset, .unset, .unset, .unset, .unset, .unset, .unset] [])) _
      refine XS.iloadN X0.here hx rfl (hb hby at_12) rfl ?_
      show Steps p.tables e below (s₁.setTop (mkF m 13 #[.val (.int p1), .val (.int p2), .val (.int p3), .val (.int (1 : Int32)), .unset, .unset, .unset, .unset, .unset, .unset, .unset, .unset] [(.int p2)])) _
      refine XS.sipush X0.here hx rfl (hb hby at_13) ?_
      show Steps p.tables e below (s₁.setTop (mkF m 16 #[.val (.int p1), .val (.int p2), .val (.int p3), .val (.int (1 : Int32)), .unset, .unset, .unset, .unset, .unset, .unset, .unset, .unset] [(.int (1023 : Int32)), (.int p2)])) _
      refine XS.iand X0.here hx rfl (hb hby at_16) rfl ?_
      show Steps p.tables e below (s₁.setTop (mkF m 17 #[.val (.int p1), .val (.int p2), .val (.int p3), .val (.int (1 : Int32)), .unset, .unset, .unset, .unset, .unset, .unset, .unset, .unset] [(.int (p2 &&& (1023 : Int32)))])) _
      refine XS.istore X0.here hx rfl (hb hby at_17) rfl (l' := #[.val (.int p1), .val (.int p2), .val (.int p3), .val (.int (1 : Int32)), .val (.int (p2 &&& (1023 : Int32))), .unset, .unset, .unset, .unset, .unset, .unset, .unset]) rfl ?_
      show Steps p.tables e below (s₁.setTop (mkF m 19 #[.val (.int p1), .val (.int p2), .val (.int p3), .val (.int (1 : Int32)), .val (.int (p2 &&& (1023 : Int32))), .unset, .unset, .unset, .unset, .unset, .unset, .unset] [])) _
      refine XS.iloadN X0.here hx rfl (hb hby at_19) rfl ?_
      show Steps p.tables e below (s₁.setTop (mkF m 20 #[.val (.int p1), .val (.int p2), .val (.int p3), .val (.int (1 : Int32)), .val (.int (p2 &&& (1023 : Int32))), .unset, .unset, .unset, .unset, .unset, .unset, .unset] [(.int p3)])) _
      refine XS.sipush X0.here hx rfl (hb hby at_20) ?_
      show Steps p.tables e below (s₁.setTop (mkF m 23 #[.val (.int p1), .val (.int p2), .val (.int p3), .val (.int (1 : Int32)), .val (.int (p2 &&& (1023 : Int32))), .unset, .unset, .unset, .unset, .unset, .unset, .unset] [(.int (1023 : Int32)), (.int p3)])) _
      refine XS.iand X0.here hx rfl (hb hby at_23) rfl ?_
      show Steps p.tables e below (s₁.setTop (mkF m 24 #[.val (.int p1), .val (.int p2), .val (.int p3), .val (.int (1 : Int32)), .val (.int (p2 &&& (1023 : Int32))), .unset, .unset, .unset, .unset, .unset, .unset, .unset] [(.int (p3 &&& (1023 : Int32)))])) _
      refine XS.istore X0.here hx rfl (hb hby at_24) rfl (l' := #[.val (.int p1), .val (.int p2), .val (.int p3), .val (.int (1 : Int32)), .val (.int (p2 &&& (1023 : Int32))), .val (.int (p3 &&& (1023 : Int32))), .unset, .unset, .unset, .unset, .unset, .unset]) rfl ?_
      show Steps p.tables e below (s₁.setTop (mkF m 26 #[.val (.int p1), .val (.int p2), .val (.int p3), .val (.int (1 : Int32)), .val (.int (p2 &&& (1023 : Int32))), .val (.int (p3 &&& (1023 : Int32))), .unset, .unset, .unset, .unset, .unset, .unset] [])) _
      refine XS.iloadN X0.here hx rfl (hb hby at_26) rfl ?_
      show Steps p.tables e below (s₁.setTop (mkF m 27 #[.val (.int p1), .val (.int p2), .val (.int p3), .val (.int (1 : Int32)), .val (.int (p2 &&& (1023 : Int32))), .val (.int (p3 &&& (1023 : Int32))), .unset, .unset, .unset, .unset, .unset, .unset] [(.int (1 : Int32))])) _
      refine XS.ifNo X0.here hx rfl (hb hby at_27) rfl ((if0 _ _).trans (feq (by decide : ¬ ((1 : Int32) = (0 : Int32)))).1) ?_
      show Steps p.tables e below (s₁.setTop (mkF m 30 #[.val (.int p1), .val (.int p2), .val (.int p3), .val (.int (1 : Int32)), .val (.int (p2 &&& (1023 : Int32))), .val (.int (p3 &&& (1023 : Int32))), .unset, .unset, .unset, .unset, .unset, .unset] [])) _
      refine XS.iload X0.here hx rfl (hb hby at_30) rfl ?_
      show Steps p.tables e below (s₁.setTop (mkF m 32 #[.val (.int p1), .val (.int p2), .val (.int p3), .val (.int (1 : Int32)), .val (.int (p2 &&& (1023 : Int32))), .val (.int (p3 &&& (1023 : Int32))), .unset, .unset, .unset, .unset, .unset, .unset] [(.int (p2 &&& (1023 : Int32)))])) _
      refine st12 _ ?_
      show Steps p.tables e below (T12.setTop (mkF m 34 #[.val (.int p1), .val (.int p2), .val (.int p3), .val (.int (1 : Int32)), .val (.int (p2 &&& (1023 : Int32))), .val (.int (p3 &&& (1023 : Int32))), .unset, .unset, .unset, .unset, .unset, .unset] [(.ref b12)])) _
      refine XS.goto X12.here hx rfl (pc0 := 34) (pc' := 38) rfl (hb hby at_34) (by decide) (by decide) ?_
      show Steps p.tables e below (T12.setTop (mkF m 38 #[.val (.int p1), .val (.int p2), .val (.int p3), .val (.int (1 : Int32)), .val (.int (p2 &&& (1023 : Int32))), .val (.int (p3 &&& (1023 : Int32))), .unset, .unset, .unset, .unset, .unset, .unset] [(.ref b12)])) _
      refine XS.astore X12.here hx rfl (hb hby at_38) rfl rfl (l' := #[.val (.int p1), .val (.int p2), .val (.int p3), .val (.int (1 : Int32)), .val (.int (p2 &&& (1023 : Int32))), .val (.int (p3 &&& (1023 : Int32))), .val (.ref b12), .unset, .unset, .unset, .unset, .unset]) rfl ?_
      show Steps p.tables e below (T12.setTop (mkF m 40 #[.val (.int p1), .val (.int p2), .val (.int p3), .val (.int (1 : Int32)), .val (.int (p2 &&& (1023 : Int32))), .val (.int (p3 &&& (1023 : Int32))), .val (.ref b12), .unset, .unset, .unset, .unset, .unset] [])) _
      refine XS.iload X12.here hx rfl (hb hby at_40) rfl ?_
      show Steps p.tables e below (T12.setTop (mkF m 42 #[.val (.int p1), .val (.int p2), .val (.int p3), .val (.int (1 : Int32)), .val (.int (p2 &&& (1023 : Int32))), .val (.int (p3 &&& (1023 : Int32))), .val (.ref b12), .unset, .unset, .unset, .unset, .unset] [(.int (p3 &&& (1023 : Int32)))])) _
      refine st13 _ ?_
      show Steps p.tables e below (T13.setTop (mkF m 44 #[.val (.int p1), .val (.int p2), .val (.int p3), .val (.int (1 : Int32)), .val (.int (p2 &&& (1023 : Int32))), .val (.int (p3 &&& (1023 : Int32))), .val (.ref b12), .unset, .unset, .unset, .unset, .unset] [(.ref b13)])) _
      refine XS.astore X13.here hx rfl (hb hby at_44) rfl rfl (l' := #[.val (.int p1), .val (.int p2), .val (.int p3), .val (.int (1 : Int32)), .val (.int (p2 &&& (1023 : Int32))), .val (.int (p3 &&& (1023 : Int32))), .val (.ref b12), .val (.ref b13), .unset, .unset, .unset, .unset]) rfl ?_
      show Steps p.tables e below (T13.setTop (mkF m 46 #[.val (.int p1), .val (.int p2), .val (.int p3), .val (.int (1 : Int32)), .val (.int (p2 &&& (1023 : Int32))), .val (.int (p3 &&& (1023 : Int32))), .val (.ref b12), .val (.ref b13), .unset, .unset, .unset, .unset] [])) _
      refine st14 _ ?_
      show Steps p.tables e below (T14.setTop (mkF m 49 #[.val (.int p1), .val (.int p2), .val (.int p3), .val (.int (1 : Int32)), .val (.int (p2 &&& (1023 : Int32))), .val (.int (p3 &&& (1023 : Int32))), .val (.ref b12), .val (.ref b13), .unset, .unset, .unset, .unset] [(.ref b14)])) _
      refine XS.dup X14.here hx rfl (hb hby at_49) rfl rfl ?_
      show Steps p.tables e below (T14.setTop (mkF m 50 #[.val (.int p1), .val (.int p2), .val (.int p3), .val (.int (1 : Int32)), .val (.int (p2 &&& (1023 : Int32))), .val (.int (p3 &&& (1023 : Int32))), .val (.ref b12), .val (.ref b13), .unset, .unset, .unset, .unset] [(.ref b14), (.ref b14)])) _
      refine XS.aload X14.here hx rfl (hb hby at_50) rfl rfl ?_
      show Steps p.tables e below (T14.setTop (mkF m 52 #[.val (.int p1), .val (.int p2), .val (.int p3), .val (.int (1 : Int32)), .val (.int (p2 &&& (1023 : Int32))), .val (.int (p3 &&& (1023 : Int32))), .val (.ref b12), .val (.ref b13), .unset, .unset, .unset, .unset] [(.ref b12), (.ref b14), (.ref b14)])) _
      refine XS.aload X14.here hx rfl (hb hby at_52) rfl rfl ?_
      show Steps p.tables e below (T14.setTop (mkF m 54 #[.val (.int p1), .val (.int p2), .val (.int p3), .val (.int (1 : Int32)), .val (.int (p2 &&& (1023 : Int32))), .val (.int (p3 &&& (1023 : Int32))), .val (.ref b12), .val (.ref b13), .unset, .unset, .unset, .unset] [(.ref b13), (.ref b12), (.ref b14), (.ref b14)])) _
      refine st15.trans ?_
      show Steps p.tables e below (T15.setTop (mkF m 57 #[.val (.int p1), .val (.int p2), .val (.int p3), .val (.int (1 : Int32)), .val (.int (p2 &&& (1023 : Int32))), .val (.int (p3 &&& (1023 : Int32))), .val (.ref b12), .val (.ref b13), .unset, .unset, .unset, .unset] [(.ref b14)])) _
      refine XS.astore X15.here hx rfl (hb hby at_57) rfl rfl (l' := #[.val (.int p1), .val (.int p2), .val (.int p3), .val (.int (1 : Int32)), .val (.int (p2 &&& (1023 : Int32))), .val (.int (p3 &&& (1023 : Int32))), .val (.ref b12), .val (.ref b13), .val (.ref b14), .unset, .unset, .unset]) rfl ?_
      show Steps p.tables e below (T15.setTop (mkF m 59 #[.val (.int p1), .val (.int p2), .val (.int p3), .val (.int (1 : Int32)), .val (.int (p2 &&& (1023 : Int32))), .val (.int (p3 &&& (1023 : Int32))), .val (.ref b12), .val (.ref b13), .val (.ref b14), .unset, .unset, .unset] [])) _
      refine XS.iloadN X15.here hx rfl (hb hby at_59) rfl ?_
      show Steps p.tables e below (T15.setTop (mkF m 60 #[.val (.int p1), .val (.int p2), .val (.int p3), .val (.int (1 : Int32)), .val (.int (p2 &&& (1023 : Int32))), .val (.int (p3 &&& (1023 : Int32))), .val (.ref b12), .val (.ref b13), .val (.ref b14), .unset, .unset, .unset] [(.int (1 : Int32))])) _
      refine XS.ifNo X15.here hx rfl (hb hby at_60) rfl ((if0 _ _).trans (feq (by decide : ¬ ((1 : Int32) = (0 : Int32)))).1) ?_
      show Steps p.tables e below (T15.setTop (mkF m 63 #[.val (.int p1), .val (.int p2), .val (.int p3), .val (.int (1 : Int32)), .val (.int (p2 &&& (1023 : Int32))), .val (.int (p3 &&& (1023 : Int32))), .val (.ref b12), .val (.ref b13), .val (.ref b14), .unset, .unset, .unset] [])) _
      refine X15.ldc2J hx hown (mvT hZ (hw _ (List.mem_of_getElem? (i := 32) rfl))) rfl (hb hby at_63) ?_
      show Steps p.tables e below (T15.setTop (mkF m 66 #[.val (.int p1), .val (.int p2), .val (.int p3), .val (.int (1 : Int32)), .val (.int (p2 &&& (1023 : Int32))), .val (.int (p3 &&& (1023 : Int32))), .val (.ref b12), .val (.ref b13), .val (.ref b14), .unset, .unset, .unset] [(.long (6 : Int64))])) _
      refine XS.iload X15.here hx rfl (hb hby at_66) rfl ?_
      show Steps p.tables e below (T15.setTop (mkF m 68 #[.val (.int p1), .val (.int p2), .val (.int p3), .val (.int (1 : Int32)), .val (.int (p2 &&& (1023 : Int32))), .val (.int (p3 &&& (1023 : Int32))), .val (.ref b12), .val (.ref b13), .val (.ref b14), .unset, .unset, .unset] [(.int (p2 &&& (1023 : Int32))), (.long (6 : Int64))])) _
      refine XS.i2l X15.here hx rfl (hb hby at_68) rfl ?_
      show Steps p.tables e below (T15.setTop (mkF m 69 #[.val (.int p1), .val (.int p2), .val (.int p3), .val (.int (1 : Int32)), .val (.int (p2 &&& (1023 : Int32))), .val (.int (p3 &&& (1023 : Int32))), .val (.ref b12), .val (.ref b13), .val (.ref b14), .unset, .unset, .unset] [(.long ((p2 &&& (1023 : Int32)).toInt64)), (.long (6 : Int64))])) _
      refine XS.ladd X15.here hx rfl (hb hby at_69) rfl ?_
      show Steps p.tables e below (T15.setTop (mkF m 70 #[.val (.int p1), .val (.int p2), .val (.int p3), .val (.int (1 : Int32)), .val (.int (p2 &&& (1023 : Int32))), .val (.int (p3 &&& (1023 : Int32))), .val (.ref b12), .val (.ref b13), .val (.ref b14), .unset, .unset, .unset] [(.long ((6 : Int64) + ((p2 &&& (1023 : Int32)).toInt64)))])) _
      refine XS.goto X15.here hx rfl (pc0 := 70) (pc' := 74) rfl (hb hby at_70) (by decide) (by decide) ?_
      show Steps p.tables e below (T15.setTop (mkF m 74 #[.val (.int p1), .val (.int p2), .val (.int p3), .val (.int (1 : Int32)), .val (.int (p2 &&& (1023 : Int32))), .val (.int (p3 &&& (1023 : Int32))), .val (.ref b12), .val (.ref b13), .val (.ref b14), .unset, .unset, .unset] [(.long ((6 : Int64) + ((p2 &&& (1023 : Int32)).toInt64)))])) _
      refine X15.ldc2J hx hown (mvT hZ (hw _ (List.mem_of_getElem? (i := 32) rfl))) rfl (hb hby at_74) ?_
      show Steps p.tables e below (T15.setTop (mkF m 77 #[.val (.int p1), .val (.int p2), .val (.int p3), .val (.int (1 : Int32)), .val (.int (p2 &&& (1023 : Int32))), .val (.int (p3 &&& (1023 : Int32))), .val (.ref b12), .val (.ref b13), .val (.ref b14), .unset, .unset, .unset] [(.long (6 : Int64)), (.long ((6 : Int64) + ((p2 &&& (1023 : Int32)).toInt64)))])) _
      refine XS.ladd X15.here hx rfl (hb hby at_77) rfl ?_
      show Steps p.tables e below (T15.setTop (mkF m 78 #[.val (.int p1), .val (.int p2), .val (.int p3), .val (.int (1 : Int32)), .val (.int (p2 &&& (1023 : Int32))), .val (.int (p3 &&& (1023 : Int32))), .val (.ref b12), .val (.ref b13), .val (.ref b14), .unset, .unset, .unset] [(.long (((6 : Int64) + ((p2 &&& (1023 : Int32)).toInt64)) + (6 : Int64)))])) _
      refine XS.iload X15.here hx rfl (hb hby at_78) rfl ?_
      show Steps p.tables e below (T15.setTop (mkF m 80 #[.val (.int p1), .val (.int p2), .val (.int p3), .val (.int (1 : Int32)), .val (.int (p2 &&& (1023 : Int32))), .val (.int (p3 &&& (1023 : Int32))), .val (.ref b12), .val (.ref b13), .val (.ref b14), .unset, .unset, .unset] [(.int (p3 &&& (1023 : Int32))), (.long (((6 : Int64) + ((p2 &&& (1023 : Int32)).toInt64)) + (6 : Int64)))])) _
      refine XS.i2l X15.here hx rfl (hb hby at_80) rfl ?_
      show Steps p.tables e below (T15.setTop (mkF m 81 #[.val (.int p1), .val (.int p2), .val (.int p3), .val (.int (1 : Int32)), .val (.int (p2 &&& (1023 : Int32))), .val (.int (p3 &&& (1023 : Int32))), .val (.ref b12), .val (.ref b13), .val (.ref b14), .unset, .unset, .unset] [(.long ((p3 &&& (1023 : Int32)).toInt64)), (.long (((6 : Int64) + ((p2 &&& (1023 : Int32)).toInt64)) + (6 : Int64)))])) _
      refine XS.ladd X15.here hx rfl (hb hby at_81) rfl ?_
      show Steps p.tables e below (T15.setTop (mkF m 82 #[.val (.int p1), .val (.int p2), .val (.int p3), .val (.int (1 : Int32)), .val (.int (p2 &&& (1023 : Int32))), .val (.int (p3 &&& (1023 : Int32))), .val (.ref b12), .val (.ref b13), .val (.ref b14), .unset, .unset, .unset] [(.long ((((6 : Int64) + ((p2 &&& (1023 : Int32)).toInt64)) + (6 : Int64)) + ((p3 &&& (1023 : Int32)).toInt64)))])) _
      refine XS.lstore X15.here hx rfl (hb hby at_82) rfl (l' := #[.val (.int p1), .val (.int p2), .val (.int p3), .val (.int (1 : Int32)), .val (.int (p2 &&& (1023 : Int32))), .val (.int (p3 &&& (1023 : Int32))), .val (.ref b12), .val (.ref b13), .val (.ref b14), .val (.long ((((6 : Int64) + ((p2 &&& (1023 : Int32)).toInt64)) + (6 : Int64)) + ((p3 &&& (1023 : Int32)).toInt64))), .second, .unset]) rfl ?_
      exact k
    obtain ⟨w11, hw11, pre17⟩ : ∃ (w11 : Int32), (w11 = own_rest ((((6 : Int64) + ((p2 &&& (1023 : Int32)).toInt64)) + (6 : Int64)) + ((p3 &&& (1023 : Int32)).toInt64))) ∧ ∀ t, Steps p.tables e below (T15.setTop (mkF m 98 #[.val (.int p1), .val (.int p2), .val (.int p3), .val (.int (1 : Int32)), .val (.int (p2 &&& (1023 : Int32))), .val (.int (p3 &&& (1023 : Int32))), .val (.ref b12), .val (.ref b13), .val (.ref b14), .val (.long ((((6 : Int64) + ((p2 &&& (1023 : Int32)).toInt64)) + (6 : Int64)) + ((p3 &&& (1023 : Int32)).toInt64))), .second, .unset] [(.int w11)])) t → Steps p.tables e below (s₁.setTop (entryFrame m #[(.int p1), (.int p2), (.int p3)] maxLocals)) t := by
      have pre18 : ∀ t, Steps p.tables e below (T15.setTop (mkF m 90 #[.val (.int p1), .val (.int p2), .val (.int p3), .val (.int (1 : Int32)), .val (.int (p2 &&& (1023 : Int32))), .val (.int (p3 &&& (1023 : Int32))), .val (.ref b12), .val (.ref b13), .val (.ref b14), .val (.long ((((6 : Int64) + ((p2 &&& (1023 : Int32)).toInt64)) + (6 : Int64)) + ((p3 &&& (1023 : Int32)).toInt64))), .second, .unset] [(.int (lcmpW ((((6 : Int64) + ((p2 &&& (1023 : Int32)).toInt64)) + (6 : Int64)) + ((p3 &&& (1023 : Int32)).toInt64)) (512 : Int64)))])) t → Steps p.tables e below (s₁.setTop (entryFrame m #[(.int p1), (.int p2), (.int p3)] maxLocals)) t := by
        intro t k
        refine pre16 _ ?_
        show Steps p.tables e below (T15.setTop (mkF m 84 #[.val (.int p1), .val (.int p2), .val (.int p3), .val (.int (1 : Int32)), .val (.int (p2 &&& (1023 : Int32))), .val (.int (p3 &&& (1023 : Int32))), .val (.ref b12), .val (.ref b13), .val (.ref b14), .val (.long ((((6 : Int64) + ((p2 &&& (1023 : Int32)).toInt64)) + (6 : Int64)) + ((p3 &&& (1023 : Int32)).toInt64))), .second, .unset] [])) _
        refine XS.lload X15.here hx rfl (hb hby at_84) rfl ?_
        show Steps p.tables e below (T15.setTop (mkF m 86 #[.val (.int p1), .val (.int p2), .val (.int p3), .val (.int (1 : Int32)), .val (.int (p2 &&& (1023 : Int32))), .val (.int (p3 &&& (1023 : Int32))), .val (.ref b12), .val (.ref b13), .val (.ref b14), .val (.long ((((6 : Int64) + ((p2 &&& (1023 : Int32)).toInt64)) + (6 : Int64)) + ((p3 &&& (1023 : Int32)).toInt64))), .second, .unset] [(.long ((((6 : Int64) + ((p2 &&& (1023 : Int32)).toInt64)) + (6 : Int64)) + ((p3 &&& (1023 : Int32)).toInt64)))])) _
        refine X15.ldc2J hx hown (mvT hZ (hw _ (List.mem_of_getElem? (i := 33) rfl))) rfl (hb hby at_86) ?_
        show Steps p.tables e below (T15.setTop (mkF m 89 #[.val (.int p1), .val (.int p2), .val (.int p3), .val (.int (1 : Int32)), .val (.int (p2 &&& (1023 : Int32))), .val (.int (p3 &&& (1023 : Int32))), .val (.ref b12), .val (.ref b13), .val (.ref b14), .val (.long ((((6 : Int64) + ((p2 &&& (1023 : Int32)).toInt64)) + (6 : Int64)) + ((p3 &&& (1023 : Int32)).toInt64))), .second, .unset] [(.long (512 : Int64)), (.long ((((6 : Int64) + ((p2 &&& (1023 : Int32)).toInt64)) + (6 : Int64)) + ((p3 &&& (1023 : Int32)).toInt64)))])) _
        refine XS.lcmp X15.here hx rfl (hb hby at_89) rfl ?_
        exact k
      by_cases hc90 : (512 : Int64) < ((((6 : Int64) + ((p2 &&& (1023 : Int32)).toInt64)) + (6 : Int64)) + ((p3 &&& (1023 : Int32)).toInt64))
      · -- hc90 
        refine ⟨(1 : Int32), by exact own_rest1 hc90, fun t k => ?_⟩
        refine pre18 _ ?_
        show Steps p.tables e below (T15.setTop (mkF m 90 #[.val (.int p1), .val (.int p2), .val (.int p3), .val (.int (1 : Int32)), .val (.int (p2 &&& (1023 : Int32))), .val (.int (p3 &&& (1023 : Int32))), .val (.ref b12), .val (.ref b13), .val (.ref b14), .val (.long ((((6 : Int64) + ((p2 &&& (1023 : Int32)).toInt64)) + (6 : Int64)) + ((p3 &&& (1023 : Int32)).toInt64))), .second, .unset] [(.int (lcmpW ((((6 : Int64) + ((p2 &&& (1023 : Int32)).toInt64)) + (6 : Int64)) + ((p3 &&& (1023 : Int32)).toInt64)) (512 : Int64)))])) _
        refine XS.ifNo X15.here hx rfl (hb hby at_90) rfl ((if0 _ _).trans (tlt ((lw_gt ((((6 : Int64) + ((p2 &&& (1023 : Int32)).toInt64)) + (6 : Int64)) + ((p3 &&& (1023 : Int32)).toInt64)) (512 : Int64)).mpr hc90)).2.2.2) ?_
        show Steps p.tables e below (T15.setTop (mkF m 93 #[.val (.int p1), .val (.int p2), .val (.int p3), .val (.int (1 : Int32)), .val (.int (p2 &&& (1023 : Int32))), .val (.int (p3 &&& (1023 : Int32))), .val (.ref b12), .val (.ref b13), .val (.ref b14), .val (.long ((((6 : Int64) + ((p2 &&& (1023 : Int32)).toInt64)) + (6 : Int64)) + ((p3 &&& (1023 : Int32)).toInt64))), .second, .unset] [])) _
        refine XS.iconst X15.here hx rfl (hb hby at_93) ?_
        show Steps p.tables e below (T15.setTop (mkF m 94 #[.val (.int p1), .val (.int p2), .val (.int p3), .val (.int (1 : Int32)), .val (.int (p2 &&& (1023 : Int32))), .val (.int (p3 &&& (1023 : Int32))), .val (.ref b12), .val (.ref b13), .val (.ref b14), .val (.long ((((6 : Int64) + ((p2 &&& (1023 : Int32)).toInt64)) + (6 : Int64)) + ((p3 &&& (1023 : Int32)).toInt64))), .second, .unset] [(.int (1 : Int32))])) _
        refine XS.goto X15.here hx rfl (pc0 := 94) (pc' := 98) rfl (hb hby at_94) (by decide) (by decide) ?_
        exact k
      · -- hc90 not
        refine ⟨(0 : Int32), by exact own_rest0 hc90, fun t k => ?_⟩
        refine pre18 _ ?_
        show Steps p.tables e below (T15.setTop (mkF m 90 #[.val (.int p1), .val (.int p2), .val (.int p3), .val (.int (1 : Int32)), .val (.int (p2 &&& (1023 : Int32))), .val (.int (p3 &&& (1023 : Int32))), .val (.ref b12), .val (.ref b13), .val (.ref b14), .val (.long ((((6 : Int64) + ((p2 &&& (1023 : Int32)).toInt64)) + (6 : Int64)) + ((p3 &&& (1023 : Int32)).toInt64))), .second, .unset] [(.int (lcmpW ((((6 : Int64) + ((p2 &&& (1023 : Int32)).toInt64)) + (6 : Int64)) + ((p3 &&& (1023 : Int32)).toInt64)) (512 : Int64)))])) _
        refine XS.ifYes X15.here hx rfl (pc0 := 90) (pc' := 97) rfl (hb hby at_90) rfl ((if0 _ _).trans (flt (fun q => hc90 ((lw_gt ((((6 : Int64) + ((p2 &&& (1023 : Int32)).toInt64)) + (6 : Int64)) + ((p3 &&& (1023 : Int32)).toInt64)) (512 : Int64)).mp q))).2.2.2) (by decide) (by decide) ?_
        show Steps p.tables e below (T15.setTop (mkF m 97 #[.val (.int p1), .val (.int p2), .val (.int p3), .val (.int (1 : Int32)), .val (.int (p2 &&& (1023 : Int32))), .val (.int (p3 &&& (1023 : Int32))), .val (.ref b12), .val (.ref b13), .val (.ref b14), .val (.long ((((6 : Int64) + ((p2 &&& (1023 : Int32)).toInt64)) + (6 : Int64)) + ((p3 &&& (1023 : Int32)).toInt64))), .second, .unset] [])) _
        refine XS.iconst X15.here hx rfl (hb hby at_97) ?_
        exact k
    obtain ⟨cq19, kq19, q19a, q19b, q19c⟩ := isOf hZ rfl E_b14
    obtain ⟨_, _, ⟨T19, L19, k19, n19⟩, -, X19, ⟨Lc19, hQ19, l19, y19, z19⟩, st19⟩ := X15.virtualBack hx (y := (⟨"com/example/leafcutter/leafcutter/Instance$Frames", "hasRest", "()Z"⟩ : MethodName)) (z := (⟨"com/example/leafcutter/leafcutter/Instance$Frames", "hasRest", "()Z"⟩ : MethodName)) hown (mvT hZ (hw _ (List.mem_of_getElem? (i := 34) rfl))) (mvT hZ (hw _ (List.mem_of_getElem? (i := 35) rfl))) (notFace_of_selects (args := #[]) (mvT hZ (hw _ (List.mem_of_getElem? (i := 37) rfl)))) (mvT hZ (hw _ (List.mem_of_getElem? (i := 37) rfl))) (mvT hZ (hw _ (List.mem_of_getElem? (i := 36) rfl))) (by decide) (backOf (W := 0) (rm4 l Z a0 hw [] b14 ((((((6 : Int32) + (p2 &&& (1023 : Int32))) + (6 : Int32)) + (p3 &&& (1023 : Int32))).toInt64)) T15.heap n0 Z15 F_mLength_b14) hZ (hw _ (List.mem_of_getElem? (i := 38) rfl)) (hw _ (List.mem_of_getElem? (i := 3) rfl)) (by decide) (by decide)) q19a q19c (g := (mkF m 102 #[.val (.int p1), .val (.int p2), .val (.int p3), .val (.int (1 : Int32)), .val (.int (p2 &&& (1023 : Int32))), .val (.int (p3 &&& (1023 : Int32))), .val (.ref b12), .val (.ref b13), .val (.ref b14), .val (.long ((((6 : Int64) + ((p2 &&& (1023 : Int32)).toInt64)) + (6 : Int64)) + ((p3 &&& (1023 : Int32)).toInt64))), .second, .val (.int w11)] [(.ref b14)])) rfl (by rw [hml]; rfl) (Steps.refl _) (argsL := []) (rest := []) (lenOf own_pd2 rfl) rfl (by show 2 * 0 + _ ≤ _; exact Nat.le_of_eq rfl) (hb hby at_102) (fun _ _ => ⟨rfl, rfl, (by decide : 5 + 0 ≤ _), (by decide : 2055 + 0 ≤ _)⟩)
    dsimp only [Pt.U, Pt.locs, Pt.cells, Pt.slots] at X19 l19 y19 z19 st19 hQ19
    subst l19 y19 z19
    obtain ⟨rfl, N19q, e19⟩ := hQ19
    have N19 := Fr.app N15 N19q
    obtain ⟨cq20, kq20, q20a, q20b, q20c⟩ := isOf hZ e19 E_b14
    obtain ⟨_, _, ⟨T20, L20, k20, n20⟩, -, X20, ⟨Lc20, hQ20, l20, y20, z20⟩, st20⟩ := X19.virtualBack hx (y := (⟨"com/example/leafcutter/leafcutter/Instance$Frames", "drop", "()V"⟩ : MethodName)) (z := (⟨"com/example/leafcutter/leafcutter/Instance$Frames", "drop", "()V"⟩ : MethodName)) hown (mvT hZ (hw _ (List.mem_of_getElem? (i := 40) rfl))) (mvT hZ (hw _ (List.mem_of_getElem? (i := 41) rfl))) (notFace_of_selects (args := #[]) (mvT hZ (hw _ (List.mem_of_getElem? (i := 43) rfl)))) (mvT hZ (hw _ (List.mem_of_getElem? (i := 43) rfl))) (mvT hZ (hw _ (List.mem_of_getElem? (i := 42) rfl))) (by decide) (backOf (W := 0) (rm5 l Z a0 hw [] b14 uS uT ((.long (((((6 : Int32) + (p2 &&& (1023 : Int32))) + (6 : Int32)) + (p3 &&& (1023 : Int32))).toInt64))) T15.heap n0 Z15 E_b14 F_mShared_b14 F_mTask_b14 F_mLength_b14 g_b14) hZ (hw _ (List.mem_of_getElem? (i := 44) rfl)) (hw _ (List.mem_of_getElem? (i := 3) rfl)) (by decide) (by decide)) q20a q20c (g := (mkF m 114 #[.val (.int p1), .val (.int p2), .val (.int p3), .val (.int (1 : Int32)), .val (.int (p2 &&& (1023 : Int32))), .val (.int (p3 &&& (1023 : Int32))), .val (.ref b12), .val (.ref b13), .val (.ref b14), .val (.long ((((6 : Int64) + ((p2 &&& (1023 : Int32)).toInt64)) + (6 : Int64)) + ((p3 &&& (1023 : Int32)).toInt64))), .second, .val (.int w11)] [(.ref b14)])) rfl (by rw [hml]; rfl) (Steps.refl _) (argsL := []) (rest := []) (lenOf own_pd3 rfl) rfl (by show 2 * 0 + _ ≤ _; exact Nat.le_of_eq rfl) (hb hby at_114) (fun _ _ => ⟨rfl, e19, (by decide : 5 + 0 ≤ _), (by decide : 2055 + 0 ≤ _)⟩)
    dsimp only [Pt.U, Pt.locs, Pt.cells, Pt.slots] at X20 l20 y20 z20 st20 hQ20
    subst l20 y20 z20
    obtain ⟨rfl, N20q, Kq20, P20_0, P20_1⟩ := hQ20
    have N20 := Fr.app N19 N20q
    have O20o := O15o.keep Kq20 (allS g_b14 all0)
    have V_b12 := V_b12.keep Kq20 (ninS ne_b12_b14 nin0)
    have V_b13 := V_b13.keep Kq20 (ninS ne_b13_b14 nin0)
    have E_b14 := P20_0
    have F_mLength_b14 := P20_1
    have Z20 : n0 ≤ T20.heap.size := Nat.le_trans Z15 Kq20.1
    obtain ⟨cq21, kq21, q21a, q21b, q21c⟩ := isOf hZ rfl E_b14
    obtain ⟨_, _, ⟨T21, L21, k21, n21⟩, -, X21, ⟨Lc21, hQ21, l21, y21, z21⟩, st21⟩ := X20.virtualBack hx (y := (⟨"com/example/leafcutter/leafcutter/Instance$Frames", "hasRest", "()Z"⟩ : MethodName)) (z := (⟨"com/example/leafcutter/leafcutter/Instance$Frames", "hasRest", "()Z"⟩ : MethodName)) hown (mvT hZ (hw _ (List.mem_of_getElem? (i := 34) rfl))) (mvT hZ (hw _ (List.mem_of_getElem? (i := 35) rfl))) (notFace_of_selects (args := #[]) (mvT hZ (hw _ (List.mem_of_getElem? (i := 37) rfl)))) (mvT hZ (hw _ (List.mem_of_getElem? (i := 37) rfl))) (mvT hZ (hw _ (List.mem_of_getElem? (i := 36) rfl))) (by decide) (backOf (W := 0) (rm4 l Z a0 hw [] b14 ((0 : Int64)) T20.heap n0 Z20 F_mLength_b14) hZ (hw _ (List.mem_of_getElem? (i := 38) rfl)) (hw _ (List.mem_of_getElem? (i := 3) rfl)) (by decide) (by decide)) q21a q21c (g := (mkF m 119 #[.val (.int p1), .val (.int p2), .val (.int p3), .val (.int (1 : Int32)), .val (.int (p2 &&& (1023 : Int32))), .val (.int (p3 &&& (1023 : Int32))), .val (.ref b12), .val (.ref b13), .val (.ref b14), .val (.long ((((6 : Int64) + ((p2 &&& (1023 : Int32)).toInt64)) + (6 : Int64)) + ((p3 &&& (1023 : Int32)).toInt64))), .second, .val (.int w11)] [(.ref b14)])) rfl (by rw [hml]; rfl) (Steps.refl _) (argsL := []) (rest := []) (lenOf own_pd2 rfl) rfl (by show 2 * 0 + _ ≤ _; exact Nat.le_of_eq rfl) (hb hby at_119) (fun _ _ => ⟨rfl, rfl, (by decide : 5 + 0 ≤ _), (by decide : 2055 + 0 ≤ _)⟩)
    dsimp only [Pt.U, Pt.locs, Pt.cells, Pt.slots] at X21 l21 y21 z21 st21 hQ21
    subst l21 y21 z21
    obtain ⟨rfl, N21q, e21⟩ := hQ21
    have N21 := Fr.app N20 N21q
    have pre22 : ∀ t, Steps p.tables e below (T21.setTop (mkF m 130 #[.val (.int p1), .val (.int p2), .val (.int p3), .val (.int (1 : Int32)), .val (.int (p2 &&& (1023 : Int32))), .val (.int (p3 &&& (1023 : Int32))), .val (.ref b12), .val (.ref b13), .val (.ref b14), .val (.long ((((6 : Int64) + ((p2 &&& (1023 : Int32)).toInt64)) + (6 : Int64)) + ((p3 &&& (1023 : Int32)).toInt64))), .second, .val (.int w11)] [(.int (1 : Int32))])) t → Steps p.tables e below (s₁.setTop (entryFrame m #[(.int p1), (.int p2), (.int p3)] maxLocals)) t := by
      intro t k
      refine pre17 _ ?_
      show Steps p.tables e below (T15.setTop (mkF m 98 #[.val (.int p1), .val (.int p2), .val (.int p3), .val (.int (1 : Int32)), .val (.int (p2 &&& (1023 : Int32))), .val (.int (p3 &&& (1023 : Int32))), .val (.ref b12), .val (.ref b13), .val (.ref b14), .val (.long ((((6 : Int64) + ((p2 &&& (1023 : Int32)).toInt64)) + (6 : Int64)) + ((p3 &&& (1023 : Int32)).toInt64))), .second, .unset] [(.int w11)])) _
      refine XS.istore X15.here hx rfl (hb hby at_98) rfl (l' := #[.val (.int p1), .val (.int p2), .val (.int p3), .val (.int (1 : Int32)), .val (.int (p2 &&& (1023 : Int32))), .val (.int (p3 &&& (1023 : Int32))), .val (.ref b12), .val (.ref b13), .val (.ref b14), .val (.long ((((6 : Int64) + ((p2 &&& (1023 : Int32)).toInt64)) + (6 : Int64)) + ((p3 &&& (1023 : Int32)).toInt64))), .second, .val (.int w11)]) rfl ?_
      show Steps p.tables e below (T15.setTop (mkF m 100 #[.val (.int p1), .val (.int p2), .val (.int p3), .val (.int (1 : Int32)), .val (.int (p2 &&& (1023 : Int32))), .val (.int (p3 &&& (1023 : Int32))), .val (.ref b12), .val (.ref b13), .val (.ref b14), .val (.long ((((6 : Int64) + ((p2 &&& (1023 : Int32)).toInt64)) + (6 : Int64)) + ((p3 &&& (1023 : Int32)).toInt64))), .second, .val (.int w11)] [])) _
      refine XS.aload X15.here hx rfl (hb hby at_100) rfl rfl ?_
      show Steps p.tables e below (T15.setTop (mkF m 102 #[.val (.int p1), .val (.int p2), .val (.int p3), .val (.int (1 : Int32)), .val (.int (p2 &&& (1023 : Int32))), .val (.int (p3 &&& (1023 : Int32))), .val (.ref b12), .val (.ref b13), .val (.ref b14), .val (.long ((((6 : Int64) + ((p2 &&& (1023 : Int32)).toInt64)) + (6 : Int64)) + ((p3 &&& (1023 : Int32)).toInt64))), .second, .val (.int w11)] [(.ref b14)])) _
      refine st19.trans ?_
      show Steps p.tables e below (T19.setTop (mkF m 105 #[.val (.int p1), .val (.int p2), .val (.int p3), .val (.int (1 : Int32)), .val (.int (p2 &&& (1023 : Int32))), .val (.int (p3 &&& (1023 : Int32))), .val (.ref b12), .val (.ref b13), .val (.ref b14), .val (.long ((((6 : Int64) + ((p2 &&& (1023 : Int32)).toInt64)) + (6 : Int64)) + ((p3 &&& (1023 : Int32)).toInt64))), .second, .val (.int w11)] [(.int (own_rest (((((6 : Int32) + (p2 &&& (1023 : Int32))) + (6 : Int32)) + (p3 &&& (1023 : Int32))).toInt64)))])) _
      refine XS.iload X19.here hx rfl (hb hby at_105) rfl ?_
      show Steps p.tables e below (T19.setTop (mkF m 107 #[.val (.int p1), .val (.int p2), .val (.int p3), .val (.int (1 : Int32)), .val (.int (p2 &&& (1023 : Int32))), .val (.int (p3 &&& (1023 : Int32))), .val (.ref b12), .val (.ref b13), .val (.ref b14), .val (.long ((((6 : Int64) + ((p2 &&& (1023 : Int32)).toInt64)) + (6 : Int64)) + ((p3 &&& (1023 : Int32)).toInt64))), .second, .val (.int w11)] [(.int w11), (.int (own_rest (((((6 : Int32) + (p2 &&& (1023 : Int32))) + (6 : Int32)) + (p3 &&& (1023 : Int32))).toInt64)))])) _
      refine XS.icmpYes X19.here hx rfl (pc0 := 107) (pc' := 112) rfl (hb hby at_107) rfl (teq ((congrArg own_rest (own_lenB p2 p3)).trans hw11.symm : (own_rest (((((6 : Int32) + (p2 &&& (1023 : Int32))) + (6 : Int32)) + (p3 &&& (1023 : Int32))).toInt64)) = w11)).1 (by decide) (by decide) ?_
      show Steps p.tables e below (T19.setTop (mkF m 112 #[.val (.int p1), .val (.int p2), .val (.int p3), .val (.int (1 : Int32)), .val (.int (p2 &&& (1023 : Int32))), .val (.int (p3 &&& (1023 : Int32))), .val (.ref b12), .val (.ref b13), .val (.ref b14), .val (.long ((((6 : Int64) + ((p2 &&& (1023 : Int32)).toInt64)) + (6 : Int64)) + ((p3 &&& (1023 : Int32)).toInt64))), .second, .val (.int w11)] [])) _
      refine XS.aload X19.here hx rfl (hb hby at_112) rfl rfl ?_
      show Steps p.tables e below (T19.setTop (mkF m 114 #[.val (.int p1), .val (.int p2), .val (.int p3), .val (.int (1 : Int32)), .val (.int (p2 &&& (1023 : Int32))), .val (.int (p3 &&& (1023 : Int32))), .val (.ref b12), .val (.ref b13), .val (.ref b14), .val (.long ((((6 : Int64) + ((p2 &&& (1023 : Int32)).toInt64)) + (6 : Int64)) + ((p3 &&& (1023 : Int32)).toInt64))), .second, .val (.int w11)] [(.ref b14)])) _
      refine st20.trans ?_
      show Steps p.tables e below (T20.setTop (mkF m 117 #[.val (.int p1), .val (.int p2), .val (.int p3), .val (.int (1 : Int32)), .val (.int (p2 &&& (1023 : Int32))), .val (.int (p3 &&& (1023 : Int32))), .val (.ref b12), .val (.ref b13), .val (.ref b14), .val (.long ((((6 : Int64) + ((p2 &&& (1023 : Int32)).toInt64)) + (6 : Int64)) + ((p3 &&& (1023 : Int32)).toInt64))), .second, .val (.int w11)] [])) _
      refine XS.aload X20.here hx rfl (hb hby at_117) rfl rfl ?_
      show Steps p.tables e below (T20.setTop (mkF m 119 #[.val (.int p1), .val (.int p2), .val (.int p3), .val (.int (1 : Int32)), .val (.int (p2 &&& (1023 : Int32))), .val (.int (p3 &&& (1023 : Int32))), .val (.ref b12), .val (.ref b13), .val (.ref b14), .val (.long ((((6 : Int64) + ((p2 &&& (1023 : Int32)).toInt64)) + (6 : Int64)) + ((p3 &&& (1023 : Int32)).toInt64))), .second, .val (.int w11)] [(.ref b14)])) _
      refine st21.trans ?_
      show Steps p.tables e below (T21.setTop (mkF m 122 #[.val (.int p1), .val (.int p2), .val (.int p3), .val (.int (1 : Int32)), .val (.int (p2 &&& (1023 : Int32))), .val (.int (p3 &&& (1023 : Int32))), .val (.ref b12), .val (.ref b13), .val (.ref b14), .val (.long ((((6 : Int64) + ((p2 &&& (1023 : Int32)).toInt64)) + (6 : Int64)) + ((p3 &&& (1023 : Int32)).toInt64))), .second, .val (.int w11)] [(.int (own_rest (0 : Int64)))])) _
      refine XS.ifNo X21.here hx rfl (hb hby at_122) rfl ((if0 _ _).trans (teq (by decide : (own_rest (0 : Int64)) = (0 : Int32))).2) ?_
      show Steps p.tables e below (T21.setTop (mkF m 125 #[.val (.int p1), .val (.int p2), .val (.int p3), .val (.int (1 : Int32)), .val (.int (p2 &&& (1023 : Int32))), .val (.int (p3 &&& (1023 : Int32))), .val (.ref b12), .val (.ref b13), .val (.ref b14), .val (.long ((((6 : Int64) + ((p2 &&& (1023 : Int32)).toInt64)) + (6 : Int64)) + ((p3 &&& (1023 : Int32)).toInt64))), .second, .val (.int w11)] [])) _
      refine XS.iconst X21.here hx rfl (hb hby at_125) ?_
      show Steps p.tables e below (T21.setTop (mkF m 126 #[.val (.int p1), .val (.int p2), .val (.int p3), .val (.int (1 : Int32)), .val (.int (p2 &&& (1023 : Int32))), .val (.int (p3 &&& (1023 : Int32))), .val (.ref b12), .val (.ref b13), .val (.ref b14), .val (.long ((((6 : Int64) + ((p2 &&& (1023 : Int32)).toInt64)) + (6 : Int64)) + ((p3 &&& (1023 : Int32)).toInt64))), .second, .val (.int w11)] [(.int (1 : Int32))])) _
      refine XS.goto X21.here hx rfl (pc0 := 126) (pc' := 130) rfl (hb hby at_126) (by decide) (by decide) ?_
      exact k
    obtain ⟨fs, hr, hrun, hended, hW, hsame⟩ := X21.leave (v := some (.int (1 : Int32))) (fun h => by rw [Bd.returns] at h; cases h)
    refine ⟨_, _, pre22 _ ?_, hrun, hended, _, _, rfl, ?_, ⟨_, rfl⟩, hW, hsame.mono (by decide) (by decide)⟩
    · show Steps p.tables e below (T21.setTop (mkF m 130 #[.val (.int p1), .val (.int p2), .val (.int p3), .val (.int (1 : Int32)), .val (.int (p2 &&& (1023 : Int32))), .val (.int (p3 &&& (1023 : Int32))), .val (.ref b12), .val (.ref b13), .val (.ref b14), .val (.long ((((6 : Int64) + ((p2 &&& (1023 : Int32)).toInt64)) + (6 : Int64)) + ((p3 &&& (1023 : Int32)).toInt64))), .second, .val (.int w11)] [(.int (1 : Int32))])) _
      exact retN X21 hx (t := .boolean) Bd.returns (by simp) (hb hby at_130) hr
    · show own_Q0 Z p1 p2 p3 t1 t2 h0 n0 _ T21.heap _
      rw [e21]
      exact ⟨rfl, N21⟩
set_option maxRecDepth 65536 in
set_option maxHeartbeats 40000000 in
theorem comes_1 {Post : Tables → Env → Array Value → State → Outcome → State → Prop} (hpost : ∀ tb e args s v u, (limb_1_1.after args s (.returned v) u = true ∧ limb_1_2.after args s (.returned v) u = true ∧ True) → FrameEnd s (.returned v) u (Jvm.fieldLocs frame_1_writes args s ++ Jvm.arrayLocs frame_1_arrays args s ++ Jvm.staticLocs frame_1_statics s) 24 4224 → Post tb e args s (.returned v) u) :
    ArmFor flags0 classFile x code maxLocals ret World_1 tables_1 room_1 Calls_1 rest_1 Pre_1 Post := by
  intro l hfl _ _ p e ha hc hk s m args below hf hA hF happ hP
  obtain ⟨hcalls, hrest, hpre⟩ := hP
  obtain ⟨-, -, -, hnamed, -, -, -, hat⟩ := (Spec.applies_iff hf).mp happ
  obtain ⟨hg, hn⟩ := and_e (Cond.before_iff.mp (show (Jvm.Cond.and given_1 narrow_1).before args s = true from hpre))
  obtain ⟨hg2, hg3⟩ := and_e hg
  obtain ⟨hg4, hg5⟩ := and_e hg3
  obtain ⟨hg6, hg7⟩ := and_e hg5
  obtain ⟨w0, w1, w2, rfl⟩ : ∃ w0 w1 w2 : Value, args = #[w0, w1, w2] := by
    have hs : args.size = 3 := by simpa [Cond.value, given_1] using hg2
    obtain ⟨L⟩ := args
    match L, hs with
    | [w0, w1, w2], _ => exact ⟨w0, w1, w2, rfl⟩
  have hw := fun d (hd : d ∈ tables_1) => atoms_spec (ws := Jvm.Cond.code x code maxLocals ret :: tables_1) hat d (List.mem_cons_of_mem _ hd)
  obtain ⟨i0, ei0⟩ := is_v hg4
  obtain rfl : w0 = (.int i0) := Option.some.inj ei0
  obtain ⟨i1, ei1⟩ := is_v hg6
  obtain rfl : w1 = (.int i1) := Option.some.inj ei1
  obtain ⟨i2, ei2⟩ := is_v hg7
  obtain rfl : w2 = (.int i2) := Option.some.inj ei2
  obtain ⟨hn1, hn2⟩ := and_e hn
  obtain ⟨t1, et1⟩ := exa_v hn1
  obtain ⟨t2, et2⟩ := exa_v hn2
  have BS_TASK := Sta.start et1 (Or.inr ⟨(hw _ (List.mem_of_getElem? (i := 16) rfl)), (hw _ (List.mem_of_getElem? (i := 17) rfl))⟩)
  have BS_SHARED := Sta.start et2 (Or.inr ⟨(hw _ (List.mem_of_getElem? (i := 16) rfl)), (hw _ (List.mem_of_getElem? (i := 46) rfl))⟩)
  obtain ⟨n, o, h1, h2, h3, _, L, rfl, ⟨rfl, N⟩, hq⟩ := rm0 l s _ hw tables_1 i0 i1 i2 t1 t2 s.heap s.heap.size (Nat.le_refl _) BS_TASK BS_SHARED (Old.start s) p e ha hc hk s m _ below hf ((Spec.applies_iff_loose hf).mp happ).1 ⟨rfl, State.Warmed39.refl s, rfl⟩ trivial
  refine ⟨n, _, h1, h2, h3, hpost _ _ _ _ _ _ ⟨Cond.after_iff.mpr rfl, Cond.after_iff.mpr (eq_i res_at (Term.int_eval (1)) rfl), trivial⟩ ⟨hq.1, hq.2.1, (hq.2.2.sift fun y hy => Or.inr (N y hy)).mono (by decide) (by decide)⟩⟩
theorem main_1_1 : Claimed_1_1 := comes_1 fun _ _ _ _ _ _ h hF => ⟨h.1, hF⟩
theorem main_1_2 : Claimed_1_2 := comes_1 fun _ _ _ _ _ _ h hF => ⟨h.2.1, hF⟩
end Jvm.Pilot.@@N@@
namespace Jvm.Pilot.@@N@@
open Jvm Jvm.ClassFile Sem Op Lib Jvm.Free Jvm.Stand Jvm.Pilot.@@N@@.Jvm.D
/-! MADE BY PROGRAM (witnessworld.py) out of the Statement's table words and the real class files: 14 classes; the members and pool entries that the words name. The judged class is class 1, her method 1. -/
namespace start1
open Jvm.ClassFile
def u (s : String) : CpInfo := .utf8 (stringToUtf16 s)
/-- a pool by its gaps: so many unusable entries, then the entry; so many at the end -/
def gap : Nat → List CpInfo → List CpInfo
  | 0, r => r
  | n + 1, r => .unusable :: gap n r
def poolList (es : List (Nat × CpInfo)) (last : Nat) : List CpInfo := es.foldr (fun e r => gap e.1 (e.2 :: r)) (gap last [])
def pool (es : List (Nat × CpInfo)) (last : Nat) : Array CpInfo := ⟨poolList es last⟩
def fileOf (pool : Array CpInfo) (this : Nat) (attrs : Array Attribute := #[]) (ms : Array MethodInfo := #[]) (fl : Nat := 33) (sup : Nat := 0) (ifs : Array Nat := #[]) (fds : Array FieldInfo := #[]) : ClassFile where
  minorVersion := 0
  majorVersion := 65
  constantPool := pool
  accessFlags := fl
  thisClass := this
  superClass := sup
  interfaces := ifs
  fields := fds
  methods := ms
  attributes := attrs
def plain (name : String) (sup : Option ClassId) : Class where
  name := name
  kind := .ordinary
  loader := none
  accessFlags := 33
  super := sup
  interfaces := #[]
  cf := none
  fields := #[]
  methods := #[]
  instanceTypes := #[]
  staticTypes := #[]
  resolved := #[]
  callSites := []
  init := .initialized
  statics := none
  mirror := none

def pool0 : Array CpInfo := pool [(5, u "<init>"), (0, u "()V"), (1, .class_ 10), (1, u "java/lang/Object")] 113

def k0c0 : Code := { maxStack := 0, maxLocals := 1, code := object_method_1_code, exceptionTable := #[], attributes := #[] }
def k0m0 : Method := { name := "<init>", desc := "()V", sig := { parameters := [], returnType := none }, accessFlags := 1, code := some k0c0 }
/-- java/lang/Object -/
def k0 : Class := { plain "java/lang/Object" none with
  accessFlags := 33
  interfaces := #[]
  cf := some (fileOf pool0 8 #[] #[{ accessFlags := 1, nameIndex := 5, descriptorIndex := 6, attributes := #[] }] 33 0 #[] #[])
  fields := #[]
  methods := #[k0m0]
  instanceTypes := #[]
  staticTypes := #[]
  resolved := Array.replicate 124 none
  statics := none }

def pool1 : Array CpInfo := pool [(2, .class_ 4), (1, u "java/lang/Object"), (0, u "<init>"), (0, u "()V"), (0, .class_ 8), (0, u "com/example/leafcutter/leafcutter/Instance$Frames"), (0, .methodref 7 10), (0, .nameAndType 5 11), (0, u "([B[B)V"), (0, .long 6), (1, .long 512), (1, .methodref 7 17), (0, .nameAndType 18 19), (0, u "hasRest"), (0, u "()Z"), (0, .methodref 7 21), (0, .nameAndType 22 6), (0, u "drop"), (0, .class_ 24), (0, u "com/example/leafcutter/leafcutter/FramesHasRestPinLaw"), (2, u "law"), (0, u "(III)Z")] 9

def k1m0 : Method := { name := "<init>", desc := "()V", sig := { parameters := [], returnType := none }, accessFlags := 1, code := none }
def k1c1 : Code := { maxStack := 4, maxLocals := 12, code := code, exceptionTable := #[], attributes := #[] }
def k1m1 : Method := { name := "law", desc := "(III)Z", sig := { parameters := [.int, .int, .int], returnType := some .boolean }, accessFlags := 9, code := some k1c1 }
/-- com/example/leafcutter/leafcutter/FramesHasRestPinLaw -/
def k1 : Class := { plain "com/example/leafcutter/leafcutter/FramesHasRestPinLaw" (some 0) with
  accessFlags := 49
  interfaces := #[]
  cf := some (fileOf pool1 23 #[] #[{ accessFlags := 1, nameIndex := 5, descriptorIndex := 6, attributes := #[] }, { accessFlags := 9, nameIndex := 27, descriptorIndex := 28, attributes := #[] }] 49 2 #[] #[])
  fields := #[]
  methods := #[k1m0, k1m1]
  instanceTypes := #[]
  staticTypes := #[]
  resolved := Array.replicate 38 none
  statics := none }

def pool2 : Array CpInfo := pool [(1, .class_ 2), (0, u "com/example/leafcutter/leafcutter/Instance"), (0, .methodref 4 5), (0, .class_ 6), (0, .nameAndType 7 8), (0, u "java/lang/Object"), (0, u "<init>"), (0, u "()V"), (0, .class_ 10), (0, u "com/example/leafcutter/leafcutter/Frame"), (0, .fieldref 12 13), (0, .class_ 14), (0, .nameAndType 15 16), (0, u "com/example/leafcutter/leafcutter/Frame$Type"), (0, u "SHARED"), (0, u "Lcom/example/leafcutter/leafcutter/Frame$Type;"), (0, .methodref 9 18), (0, .nameAndType 7 19), (0, u "(Lcom/example/leafcutter/leafcutter/Frame$Type;I[B)V"), (0, .fieldref 21 22), (0, .class_ 23), (0, .nameAndType 24 25), (0, u "com/example/leafcutter/leafcutter/Instance$Frames"), (0, u "mShared"), (0, u "Lcom/example/leafcutter/leafcutter/Frame;"), (0, .fieldref 12 27), (0, .nameAndType 28 16), (0, u "TASK"), (0, .fieldref 21 30), (0, .nameAndType 31 25), (0, u "mTask"), (0, .fieldref 21 33), (0, .nameAndType 34 35), (0, u "mLength"), (0, u "J"), (0, .long 512), (30, u "([B[B)V"), (7, u "hasRest"), (0, u "()Z"), (2, u "drop")] 7

def k2c0 : Code := { maxStack := 6, maxLocals := 3, code := prog_21_method_1_code, exceptionTable := #[], attributes := #[] }
def k2m0 : Method := { name := "<init>", desc := "([B[B)V", sig := { parameters := [(.array .byte), (.array .byte)], returnType := none }, accessFlags := 0, code := some k2c0 }
def k2c1 : Code := { maxStack := 4, maxLocals := 1, code := prog_21_method_3_code, exceptionTable := #[], attributes := #[] }
def k2m1 : Method := { name := "hasRest", desc := "()Z", sig := { parameters := [], returnType := some .boolean }, accessFlags := 0, code := some k2c1 }
def k2c2 : Code := { maxStack := 3, maxLocals := 1, code := prog_21_method_5_code, exceptionTable := #[], attributes := #[] }
def k2m2 : Method := { name := "drop", desc := "()V", sig := { parameters := [], returnType := none }, accessFlags := 0, code := some k2c2 }
/-- com/example/leafcutter/leafcutter/Instance$Frames -/
def k2 : Class := { plain "com/example/leafcutter/leafcutter/Instance$Frames" (some 0) with
  accessFlags := 32
  interfaces := #[]
  cf := some (fileOf pool2 21 #[.nestHost 1] #[{ accessFlags := 0, nameIndex := 7, descriptorIndex := 67, attributes := #[] }, { accessFlags := 0, nameIndex := 75, descriptorIndex := 76, attributes := #[] }, { accessFlags := 0, nameIndex := 79, descriptorIndex := 8, attributes := #[] }] 32 4 #[] #[{ accessFlags := 2, nameIndex := 24, descriptorIndex := 25, attributes := #[] }, { accessFlags := 2, nameIndex := 31, descriptorIndex := 25, attributes := #[] }, { accessFlags := 2, nameIndex := 34, descriptorIndex := 35, attributes := #[] }])
  fields := #[{ name := "mShared", type := (.object "com/example/leafcutter/leafcutter/Frame"), accessFlags := 2, slot := 0, constantValue := 0 }, { name := "mTask", type := (.object "com/example/leafcutter/leafcutter/Frame"), accessFlags := 2, slot := 1, constantValue := 0 }, { name := "mLength", type := .long, accessFlags := 2, slot := 2, constantValue := 0 }]
  methods := #[k2m0, k2m1, k2m2]
  instanceTypes := #[(.object "com/example/leafcutter/leafcutter/Frame"), (.object "com/example/leafcutter/leafcutter/Frame"), .long]
  staticTypes := #[]
  resolved := Array.replicate 87 none
  statics := none }

def pool3 : Array CpInfo := pool [(1, .methodref 2 3), (0, .class_ 4), (0, .nameAndType 5 6), (0, u "java/lang/Object"), (0, u "<init>"), (0, u "()V"), (0, .class_ 8), (0, u "com/example/leafcutter/leafcutter/Frame"), (9, .fieldref 7 19), (0, .nameAndType 20 21), (0, u "mType"), (0, u "Lcom/example/leafcutter/leafcutter/Frame$Type;"), (0, .fieldref 7 23), (0, .nameAndType 24 25), (0, u "mStatus"), (0, u "I"), (0, .fieldref 7 27), (0, .nameAndType 28 29), (0, u "mPayload"), (0, u "[B"), (22, .class_ 54), (1, u "com/example/leafcutter/leafcutter/Frame$Type"), (38, .class_ 95), (1, u "com/example/leafcutter/leafcutter/Frame$PayloadBuffer"), (8, u "(Lcom/example/leafcutter/leafcutter/Frame$Type;I[B)V"), (24, u "HEADER_BYTES"), (2, u "MAX_STATUS"), (1, u "DEFAULT_MAX_PAYLOAD_BYTES"), (1, u "MAX_PAYLOAD_LIMIT"), (1, u "PIECE_BYTES")] 42

def k3c0 : Code := { maxStack := 3, maxLocals := 4, code := prog_13_method_1_code, exceptionTable := #[], attributes := #[] }
def k3m0 : Method := { name := "<init>", desc := "(Lcom/example/leafcutter/leafcutter/Frame$Type;I[B)V", sig := { parameters := [(.object "com/example/leafcutter/leafcutter/Frame$Type"), .int, (.array .byte)], returnType := none }, accessFlags := 0, code := some k3c0 }
/-- com/example/leafcutter/leafcutter/Frame -/
def k3 : Class := { plain "com/example/leafcutter/leafcutter/Frame" (some 0) with
  accessFlags := 32
  interfaces := #[]
  cf := some (fileOf pool3 7 #[.nestMembers #[93, 52]] #[{ accessFlags := 0, nameIndex := 5, descriptorIndex := 104, attributes := #[] }] 32 2 #[] #[{ accessFlags := 24, nameIndex := 129, descriptorIndex := 25, attributes := #[] }, { accessFlags := 24, nameIndex := 132, descriptorIndex := 25, attributes := #[] }, { accessFlags := 24, nameIndex := 134, descriptorIndex := 25, attributes := #[] }, { accessFlags := 24, nameIndex := 136, descriptorIndex := 25, attributes := #[] }, { accessFlags := 24, nameIndex := 138, descriptorIndex := 25, attributes := #[] }, { accessFlags := 18, nameIndex := 20, descriptorIndex := 21, attributes := #[] }, { accessFlags := 18, nameIndex := 24, descriptorIndex := 25, attributes := #[] }, { accessFlags := 18, nameIndex := 28, descriptorIndex := 29, attributes := #[] }])
  fields := #[{ name := "HEADER_BYTES", type := .int, accessFlags := 24, slot := 0, constantValue := 0 }, { name := "MAX_STATUS", type := .int, accessFlags := 24, slot := 1, constantValue := 0 }, { name := "DEFAULT_MAX_PAYLOAD_BYTES", type := .int, accessFlags := 24, slot := 2, constantValue := 0 }, { name := "MAX_PAYLOAD_LIMIT", type := .int, accessFlags := 24, slot := 3, constantValue := 0 }, { name := "PIECE_BYTES", type := .int, accessFlags := 24, slot := 4, constantValue := 0 }, { name := "mType", type := (.object "com/example/leafcutter/leafcutter/Frame$Type"), accessFlags := 18, slot := 0, constantValue := 0 }, { name := "mStatus", type := .int, accessFlags := 18, slot := 1, constantValue := 0 }, { name := "mPayload", type := (.array .byte), accessFlags := 18, slot := 2, constantValue := 0 }]
  methods := #[k3m0]
  instanceTypes := #[(.object "com/example/leafcutter/leafcutter/Frame$Type"), .int, (.array .byte)]
  staticTypes := #[.int, .int, .int, .int, .int]
  resolved := Array.replicate 181 none
  statics := none }

def pool4 : Array CpInfo := pool [(1, .class_ 2), (0, u "java/lang/constant/Constable"), (0, .class_ 4), (0, u "java/lang/Object")] 6

/-- java/lang/constant/Constable -/
def k4 : Class := { plain "java/lang/constant/Constable" (some 0) with
  accessFlags := 1537
  interfaces := #[]
  cf := some (fileOf pool4 1 #[] #[] 1537 3 #[] #[])
  fields := #[]
  methods := #[]
  instanceTypes := #[]
  staticTypes := #[]
  resolved := Array.replicate 11 none
  statics := none }

def pool5 : Array CpInfo := pool [(1, .class_ 2), (0, u "java/lang/Comparable"), (0, .class_ 4), (0, u "java/lang/Object")] 7

/-- java/lang/Comparable -/
def k5 : Class := { plain "java/lang/Comparable" (some 0) with
  accessFlags := 1537
  interfaces := #[]
  cf := some (fileOf pool5 1 #[] #[] 1537 3 #[] #[])
  fields := #[]
  methods := #[]
  instanceTypes := #[]
  staticTypes := #[]
  resolved := Array.replicate 12 none
  statics := none }

def pool6 : Array CpInfo := pool [(1, .class_ 2), (0, u "java/io/Serializable"), (0, .class_ 4), (0, u "java/lang/Object")] 2

/-- java/io/Serializable -/
def k6 : Class := { plain "java/io/Serializable" (some 0) with
  accessFlags := 1537
  interfaces := #[]
  cf := some (fileOf pool6 1 #[] #[] 1537 3 #[] #[])
  fields := #[]
  methods := #[]
  instanceTypes := #[]
  staticTypes := #[]
  resolved := Array.replicate 7 none
  statics := none }

def pool7 : Array CpInfo := pool [(2, .class_ 4), (1, u "java/lang/Enum"), (0, u "name"), (0, u "Ljava/lang/String;"), (2, u "ordinal"), (0, u "I"), (1, .class_ 14), (1, u "java/lang/Object"), (4, u "hash"), (86, .class_ 108), (1, u "java/lang/Enum$EnumDesc"), (2, .class_ 112), (0, u "java/lang/constant/Constable"), (0, .class_ 114), (0, u "java/lang/Comparable"), (0, .class_ 116), (0, u "java/io/Serializable")] 87

/-- java/lang/Enum -/
def k7 : Class := { plain "java/lang/Enum" (some 0) with
  accessFlags := 1057
  interfaces := #[4, 5, 6]
  cf := some (fileOf pool7 2 #[.nestMembers #[106]] #[] 1057 12 #[111, 113, 115] #[{ accessFlags := 18, nameIndex := 5, descriptorIndex := 6, attributes := #[] }, { accessFlags := 18, nameIndex := 9, descriptorIndex := 10, attributes := #[] }, { accessFlags := 2, nameIndex := 19, descriptorIndex := 10, attributes := #[] }])
  fields := #[{ name := "name", type := (.object "java/lang/String"), accessFlags := 18, slot := 0, constantValue := 0 }, { name := "ordinal", type := .int, accessFlags := 18, slot := 1, constantValue := 0 }, { name := "hash", type := .int, accessFlags := 2, slot := 2, constantValue := 0 }]
  methods := #[]
  instanceTypes := #[(.object "java/lang/String"), .int, .int]
  staticTypes := #[]
  resolved := Array.replicate 204 none
  statics := none }

def pool8 : Array CpInfo := pool [(1, .class_ 2), (0, u "com/example/leafcutter/leafcutter/Frame$Type"), (2, u "TASK"), (0, u "Lcom/example/leafcutter/leafcutter/Frame$Type;"), (2, u "SHARED"), (2, u "RESULT"), (2, u "$VALUES"), (0, u "[Lcom/example/leafcutter/leafcutter/Frame$Type;"), (6, .class_ 25), (1, u "java/lang/Enum"), (8, u "mCode"), (0, u "I"), (30, .class_ 67), (0, u "com/example/leafcutter/leafcutter/Frame")] 2

/-- com/example/leafcutter/leafcutter/Frame$Type -/
def k8 : Class := { plain "com/example/leafcutter/leafcutter/Frame$Type" (some 7) with
  accessFlags := 16432
  interfaces := #[]
  cf := some (fileOf pool8 1 #[.nestHost 66] #[] 16432 23 #[] #[{ accessFlags := 16409, nameIndex := 5, descriptorIndex := 6, attributes := #[] }, { accessFlags := 16409, nameIndex := 9, descriptorIndex := 6, attributes := #[] }, { accessFlags := 16409, nameIndex := 12, descriptorIndex := 6, attributes := #[] }, { accessFlags := 18, nameIndex := 34, descriptorIndex := 35, attributes := #[] }, { accessFlags := 4122, nameIndex := 15, descriptorIndex := 16, attributes := #[] }])
  fields := #[{ name := "TASK", type := (.object "com/example/leafcutter/leafcutter/Frame$Type"), accessFlags := 16409, slot := 0, constantValue := 0 }, { name := "SHARED", type := (.object "com/example/leafcutter/leafcutter/Frame$Type"), accessFlags := 16409, slot := 1, constantValue := 0 }, { name := "RESULT", type := (.object "com/example/leafcutter/leafcutter/Frame$Type"), accessFlags := 16409, slot := 2, constantValue := 0 }, { name := "mCode", type := .int, accessFlags := 18, slot := 3, constantValue := 0 }, { name := "$VALUES", type := (.array (.object "com/example/leafcutter/leafcutter/Frame$Type")), accessFlags := 4122, slot := 3, constantValue := 0 }]
  methods := #[]
  instanceTypes := #[(.object "java/lang/String"), .int, .int, .int]
  staticTypes := #[(.object "com/example/leafcutter/leafcutter/Frame$Type"), (.object "com/example/leafcutter/leafcutter/Frame$Type"), (.object "com/example/leafcutter/leafcutter/Frame$Type"), (.array (.object "com/example/leafcutter/leafcutter/Frame$Type"))]
  resolved := Array.replicate 70 none
  statics := some 0 }

def pool9 : Array CpInfo := pool [(1, u "java/lang/Cloneable"), (0, .class_ 1), (0, u "java/lang/Object"), (0, .class_ 3)] 3

/-- java/lang/Cloneable -/
def k9 : Class := { plain "java/lang/Cloneable" (some 0) with
  accessFlags := 1537
  interfaces := #[]
  cf := some (fileOf pool9 2 #[] #[] 1537 4 #[] #[])
  fields := #[]
  methods := #[]
  instanceTypes := #[]
  staticTypes := #[]
  resolved := Array.replicate 8 none
  statics := none }

/-- the primitive byte -/
def k10 : Class := { plain "byte" none with kind := .primitive 'B', accessFlags := 0x411 }
/-- [B -/
def k11 : Class := { plain "[B" (some 0) with kind := .array 10 .byte, interfaces := #[9, 6], accessFlags := 1041 }

/-- the primitive int -/
def k12 : Class := { plain "int" none with kind := .primitive 'I', accessFlags := 0x411 }
/-- [I -/
def k13 : Class := { plain "[I" (some 0) with kind := .array 12 .int, interfaces := #[9, 6], accessFlags := 1041 }

def heap : Heap := #[{ cls := 8, slots := #[.ref 1, .ref 2, .null, .null], vm := .statics 8 },
  { cls := 8, slots := #[.null, .int 0, .int 0, .int 0], vm := .none },
  { cls := 8, slots := #[.null, .int 1, .int 0, .int 0], vm := .none }]
def classes : Array Class := #[k0, k1, k2, k3, k4, k5, k6, k7, k8, k9, k10, k11, k12, k13]
def interned : List (Array UInt16 × Addr) := []
def slotsUsed : Nat := 12
def theMethod : MethodId := ⟨1, 1⟩
def args0 : Array Value := #[.int 5, .int 7, .int 1]
def aboutOver (below : List Frame) : State where
  vm := { classes := classes, interned := interned.toArray }
  heap := heap
  slotsUsed := slotsUsed
  threads := #[{ frames := .invoking theMethod args0 :: below }]
def below0 : List Frame := [.native { method := ⟨0, 0⟩, args := #[] }]
def about1 : State := aboutOver below0
def p0 : Program := .bare "" "" ""
def e0 : Env := launch0.env 0 0 0
theorem w_frames : about1.frames = Frame.invoking theMethod args0 :: below0 := rfl
set_option maxRecDepth 65536 in
theorem w_args : argsFit about1.vm theMethod args0 = true := by decide +kernel
set_option maxRecDepth 65536 in
theorem w_heap : heapFits about1 = true := by decide +kernel
set_option maxRecDepth 65536 in
theorem w_runnable : about1.curStatus? = some .runnable := by decide +kernel
set_option maxRecDepth 65536 in
theorem w_alone : about1.alone = true := by decide +kernel
set_option maxRecDepth 65536 in
theorem w_named : about1.methodNamed? x = some theMethod := by decide +kernel
set_option maxRecDepth 65536 in
theorem w_hears : about1.hears theMethod below0 = true := by decide +kernel
set_option maxRecDepth 65536 in
theorem w_ripe : about1.ripe theMethod args0 below0 = true := by decide +kernel
theorem w_running : about1.status = .running := rfl
set_option maxRecDepth 65536 in
theorem w_room : about1.hasRoom e0.platform room_1 = true :=
  launch0.hasRoom_least _ room_1 (by decide +kernel) (by decide +kernel) (by decide +kernel) (by decide +kernel) (by decide +kernel) (by decide +kernel)
theorem allAtoms_all (ts : List Jvm.Cond) (a : Array Jvm.Value) (st : Jvm.State) : (allAtoms ts).before a st = ts.all (fun c => c.before a st) := by
  induction ts with
  | nil => rfl
  | cons c t ih =>
    show (Jvm.Cond.and c (allAtoms t)).before a st = _
    rw [Jvm.Cond.before_and, ih, List.all_cons]
def words1 : List Jvm.Cond := Jvm.Cond.code x code maxLocals ret :: tables_1
/-- a 'code' word, met by the world's own term for the bytes: nothing is compared byte by byte -/
theorem code_word {y : MethodName} {bytes : ByteArray} {mx : Nat} {rt : Option FieldType} {a : Array Value} {s : State} {m : MethodId} {meth : Method} {c : Code} (h1 : s.methodNamed? y = some m) (h2 : s.vm.method? m = some meth) (h3 : meth.code = some c) (h4 : c.code = bytes)
    (h5 : (c.maxLocals == mx && c.exceptionTable.isEmpty && decide (c.maxStack ≤ mostOperands) && decide (meth.sig.returnType = rt) && !meth.locks && decide (parseMethodDescriptor y.desc = some meth.sig)) = true) : (Jvm.Cond.code y bytes mx rt).before a s = true := by
  simp only [Bool.and_eq_true, beq_iff_eq, Bool.not_eq_true', decide_eq_true_eq] at h5
  obtain ⟨⟨⟨⟨⟨g1, g2⟩, g3⟩, g4⟩, g5⟩, g6⟩ := h5
  simp [Cond.before, Cond.holds, Cond.value, h1, h2, h3, h4, g1, g2, g3, g4, g5, g6]
def isCode : Jvm.Cond → Bool
  | .code _ _ _ _ => true
  | _ => false
theorem all_split {L : List Jvm.Cond} {P : Jvm.Cond → Bool} (h1 : L.all (fun c => isCode c || P c) = true) (h2 : ∀ c ∈ L.filter isCode, P c = true) : L.all P = true := by
  refine List.all_eq_true.mpr fun c hc => ?_
  have h := List.all_eq_true.mp h1 c hc
  rcases Bool.eq_false_or_eq_true (isCode c) with hi | hi
  · exact h2 c (List.mem_filter.mpr ⟨hc, hi⟩)
  · simpa [hi] using h
set_option maxRecDepth 65536 in
theorem w_c0 : (Jvm.Cond.code x code maxLocals ret).before args0 about1 = true := code_word (m := ⟨1, 1⟩) (meth := k1m1) (c := k1c1) (by decide +kernel) rfl rfl rfl (by decide +kernel)
set_option maxRecDepth 65536 in
theorem w_c1 : (Jvm.Cond.code ({ cls := "com/example/leafcutter/leafcutter/Instance$Frames", name := "<init>", desc := "([B[B)V" } : Jvm.MethodName) prog_21_method_1_code (3 : Nat) (Option.none : Option Jvm.ClassFile.FieldType)).before args0 about1 = true := code_word (m := ⟨2, 0⟩) (meth := k2m0) (c := k2c0) (by decide +kernel) rfl rfl rfl (by decide +kernel)
set_option maxRecDepth 65536 in
theorem w_c2 : (Jvm.Cond.code ({ cls := "java/lang/Object", name := "<init>", desc := "()V" } : Jvm.MethodName) object_method_1_code (1 : Nat) (Option.none : Option Jvm.ClassFile.FieldType)).before args0 about1 = true := code_word (m := ⟨0, 0⟩) (meth := k0m0) (c := k0c0) (by decide +kernel) rfl rfl rfl (by decide +kernel)
set_option maxRecDepth 65536 in
theorem w_c3 : (Jvm.Cond.code ({ cls := "com/example/leafcutter/leafcutter/Frame", name := "<init>", desc := "(Lcom/example/leafcutter/leafcutter/Frame$Type;I[B)V" } : Jvm.MethodName) prog_13_method_1_code (4 : Nat) (Option.none : Option Jvm.ClassFile.FieldType)).before args0 about1 = true := code_word (m := ⟨3, 0⟩) (meth := k3m0) (c := k3c0) (by decide +kernel) rfl rfl rfl (by decide +kernel)
set_option maxRecDepth 65536 in
theorem w_c4 : (Jvm.Cond.code ({ cls := "com/example/leafcutter/leafcutter/Instance$Frames", name := "hasRest", desc := "()Z" } : Jvm.MethodName) prog_21_method_3_code (1 : Nat) (Option.some Jvm.ClassFile.FieldType.boolean)).before args0 about1 = true := code_word (m := ⟨2, 1⟩) (meth := k2m1) (c := k2c1) (by decide +kernel) rfl rfl rfl (by decide +kernel)
set_option maxRecDepth 65536 in
theorem w_c5 : (Jvm.Cond.code ({ cls := "com/example/leafcutter/leafcutter/Instance$Frames", name := "drop", desc := "()V" } : Jvm.MethodName) prog_21_method_5_code (1 : Nat) (Option.none : Option Jvm.ClassFile.FieldType)).before args0 about1 = true := code_word (m := ⟨2, 2⟩) (meth := k2m2) (c := k2c2) (by decide +kernel) rfl rfl rfl (by decide +kernel)
def codes1 : List Jvm.Cond := [Jvm.Cond.code x code maxLocals ret, Jvm.Cond.code ({ cls := "com/example/leafcutter/leafcutter/Instance$Frames", name := "<init>", desc := "([B[B)V" } : Jvm.MethodName) prog_21_method_1_code (3 : Nat) (Option.none : Option Jvm.ClassFile.FieldType), Jvm.Cond.code ({ cls := "java/lang/Object", name := "<init>", desc := "()V" } : Jvm.MethodName) object_method_1_code (1 : Nat) (Option.none : Option Jvm.ClassFile.FieldType), Jvm.Cond.code ({ cls := "com/example/leafcutter/leafcutter/Frame", name := "<init>", desc := "(Lcom/example/leafcutter/leafcutter/Frame$Type;I[B)V" } : Jvm.MethodName) prog_13_method_1_code (4 : Nat) (Option.none : Option Jvm.ClassFile.FieldType), Jvm.Cond.code ({ cls := "com/example/leafcutter/leafcutter/Instance$Frames", name := "hasRest", desc := "()Z" } : Jvm.MethodName) prog_21_method_3_code (1 : Nat) (Option.some Jvm.ClassFile.FieldType.boolean), Jvm.Cond.code ({ cls := "com/example/leafcutter/leafcutter/Instance$Frames", name := "drop", desc := "()V" } : Jvm.MethodName) prog_21_method_5_code (1 : Nat) (Option.none : Option Jvm.ClassFile.FieldType)]
set_option maxRecDepth 65536 in
theorem codes_eq : words1.filter isCode = codes1 := rfl
theorem w_codes : ∀ c ∈ words1.filter isCode, c.before args0 about1 = true := by
  rw [codes_eq]
  intro c hc
  simp only [codes1, List.mem_cons, List.not_mem_nil, or_false] at hc
  rcases hc with rfl | rfl | rfl | rfl | rfl | rfl
  · exact w_c0
  · exact w_c1
  · exact w_c2
  · exact w_c3
  · exact w_c4
  · exact w_c5
set_option maxRecDepth 65536 in
theorem w_t1 : (words1.take 24).all (fun c => isCode c || c.before args0 about1) = true := by decide +kernel
set_option maxRecDepth 65536 in
theorem w_t2 : (words1.drop 24).all (fun c => isCode c || c.before args0 about1) = true := by decide +kernel
theorem w_tables : (allAtoms (Jvm.Cond.code x code maxLocals ret :: tables_1)).before args0 about1 = true := by
  rw [allAtoms_all]
  show words1.all (fun c => c.before args0 about1) = true
  refine all_split ?_ w_codes
  rw [← List.take_append_drop 24 words1, List.all_append, w_t1, w_t2]
  rfl
set_option maxRecDepth 65536 in
theorem w_case : (Jvm.Cond.and given_1 narrow_1).before args0 about1 = true := by decide +kernel
theorem w_applies : (headSpec (Jvm.Cond.code x code maxLocals ret :: tables_1) room_1).applies x e0.platform about1 = true :=
  (Spec.applies_iff w_frames).mpr ⟨w_running, w_runnable, w_alone, w_named, w_hears, w_ripe, w_room, w_tables⟩
theorem atStart : AtStart classFile x code maxLocals ret World_1 tables_1 room_1 Calls_1 rest_1 Pre_1 launch0 p0 e0 about1 theMethod args0 below0 :=
  ⟨lists_1, trivial, launch0.admits_env _ _ _, launch0.least_env, fairChoices_fair.cas, fairChoices_fair.clock, w_frames, w_args, w_heap, w_applies, trivial, trivial, w_case⟩
end start1
theorem witness_1 : WitnessClaimed_1 := ⟨start1.p0, start1.e0, start1.about1, start1.theMethod, start1.args0, start1.below0, start1.atStart⟩
end Jvm.Pilot.@@N@@
