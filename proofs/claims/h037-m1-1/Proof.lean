import JvmDerived
import JvmDerived.Pilot.@@N@@Statement
import JvmDerived.Pilot.@@N@@Code
set_option linter.unusedVariables false
set_option linter.unusedSimpArgs false
namespace Jvm.RoadKit
open Sem ClassFile Op Lib Jvm.Stand Jvm.Free Jvm.LawKit
section New
variable {p : Program} {l : Launch} {e : Env} {R : Room} {s : State} {m : MethodId} {args : Array Value} {below : List Frame} {meth : Method} {c : Code} {T : State} {locs : List Loc} {cells slots : Nat}
theorem retI (X : Stand p l e R s m args below meth c T locs cells slots) (hx : p.tables.exec = Jvm.exec) {pc : Nat} {Ls : Array Slot} {z : Int32} {rest : List Value} (hret : meth.sig.returnType = some .int) (hd : decode c.code pc = .ok (.ireturn, 1)) {fs : List Frame}
    (hl : ∀ (f : JFrame) (acts : List Action), f.method = m → f.locked = none → f.entered = [] → (doReturn e (T.setTop f) acts (some (.int z))).1 = T.setFrames fs) : Steps p.tables e below (T.setTop (mkF m pc Ls (.int z :: rest))) (T.setFrames fs) := by
  have hm' : T.vm.method? m = some meth := X.method'
  have hn : narrow .int (.int z) = .int z := rfl
  show Steps p.tables e below (T.setTop { method := m, pc := pc, locals := Ls, stack := _ :: rest, locked := none }) _
  jvm_step X.here [X.here.top, hx, hd, hm', hret, hn]
  first | (intro acts; rw [hl _ acts rfl rfl rfl]) | rw [hl _ _ rfl rfl rfl]
  exact Steps.refl _
end New
end Jvm.RoadKit
namespace Jvm.Pilot.@@N@@
open Jvm Jvm.ClassFile Sem Op Lib Jvm.Free Jvm.Stand Jvm.LawKit Jvm.RoadKit Bundle Jvm.Pilot.@@N@@.Jvm.D
theorem own_lt (a b : Int32) : a < b ↔ a.toInt < b.toInt := Int32.lt_iff_toInt_lt
theorem own_eq (a b : Int32) : a = b ↔ a.toInt = b.toInt := Int32.toInt_inj.symm
theorem own_getI (l : List Int32) (k : Nat) : (l.map Value.int).getD k (.int 0) = .int (l.getD k 0) := by
  induction l generalizing k with
  | nil => rfl
  | cons a t ih => cases k with
    | zero => rfl
    | succ k => exact ih k
theorem own_nv {z : Int32} (h : z = 0 ∨ z = 1) : narrow .boolean (.int z) = .int z := by rcases h with rfl | rfl <;> rfl
theorem own_fitb {z : Int32} (h : z = 0 ∨ z = 1) : fits .boolean (.int z) = true := by rcases h with rfl | rfl <;> rfl
theorem own_nar {z : Int32} (h : z = 0 ∨ z = 1) : nar .boolean z = z := by rcases h with rfl | rfl <;> rfl
def own_max (a b : Int32) : Int32 := if a < b then b else a
theorem own_max1 {a b : Int32} (h : a < b) : b = own_max a b := by rw [own_max, if_pos h]
theorem own_max0 {a b : Int32} (h : ¬ a < b) : a = own_max a b := by rw [own_max, if_neg h]
def own_held (unf unp fr : Int32) (by_ fb : Int64) : Int32 := if unp < fr ∧ by_ < fb then unf else unf + unp
theorem own_held1 {unf unp fr : Int32} {by_ fb : Int64} (h : unp < fr) (h' : by_ < fb) : unf = own_held unf unp fr by_ fb := by rw [own_held, if_pos ⟨h, h'⟩]
theorem own_held0 {unf unp fr : Int32} {by_ fb : Int64} (h : ¬ unp < fr) : unf + unp = own_held unf unp fr by_ fb := by rw [own_held, if_neg fun q => h q.1]
theorem own_held2 {unf unp fr : Int32} {by_ fb : Int64} (h : ¬ by_ < fb) : unf + unp = own_held unf unp fr by_ fb := by rw [own_held, if_neg fun q => h q.2]
theorem own_u (u : Int32) : (((0 : Int32) + (u + (2 : Int32))) - (1 : Int32)) - (1 : Int32) = u := by
  apply Int32.toInt_inj.mp
  have a1 := c_iadd u 2
  have a2 := c_isub (u + 2) 1
  have a3 := c_isub ((u + 2) - 1) 1
  have r1 := rng32 u
  have r2 := rng32 (((u + 2) - 1) - 1)
  rw [Int32.zero_add]
  simp only [Int32.reduceToInt] at a1 a2 a3
  omega
theorem own_p (r : Int32) : (((0 : Int32) + (1 : Int32)) + (1 : Int32)) - r = (2 : Int32) - r := by rw [show ((0 : Int32) + (1 : Int32)) + (1 : Int32) = 2 from by decide]
theorem own_b (x y z : Int64) : (((0 : Int64) + x) + y) - z = (x + y) - z := by rw [Int64.zero_add]
theorem own_pn1 : plainName "com/example/leafcutter/leafcutter/LeaseRoom" = true := by first | (simp [plainName, overriddenIn]; done) | decide +kernel
theorem own_pn3 : plainName "com/example/leafcutter/leafcutter/LeaseRoom" = true := by first | (simp [plainName, overriddenIn]; done) | decide +kernel
theorem own_pn5 : plainName "com/example/leafcutter/leafcutter/LeaseRoom" = true := by first | (simp [plainName, overriddenIn]; done) | decide +kernel
theorem own_pd0 : parseMethodDescriptor "(II)I" = some ⟨[.int, .int], some .int⟩ := by decide +kernel
theorem own_pn4 : plainName "com/example/leafcutter/leafcutter/LeaseRoom" = true := by first | (simp [plainName, overriddenIn]; done) | decide +kernel
theorem own_pd1 : parseMethodDescriptor "()I" = some ⟨[], some .int⟩ := by decide +kernel
theorem own_pn7 : plainName "com/example/leafcutter/leafcutter/LeaseRoom" = true := by first | (simp [plainName, overriddenIn]; done) | decide +kernel
theorem own_pn0 : plainName "com/example/leafcutter/leafcutter/LeaseRoomPostedPinLaw" = true := by first | (simp [plainName, overriddenIn]; done) | decide +kernel
theorem own_pd2 : parseMethodDescriptor "(IIJ)V" = some ⟨[.int, .int, .long], none⟩ := by decide +kernel
theorem own_pd3 : parseMethodDescriptor "(I)V" = some ⟨[.int], none⟩ := by decide +kernel
theorem own_pd4 : parseMethodDescriptor "(J)Z" = some ⟨[.long], some .boolean⟩ := by decide +kernel
theorem own_pd5 : parseMethodDescriptor "(IJ)V" = some ⟨[.int, .long], none⟩ := by decide +kernel
theorem own_d1_0 : decode prog_27_method_1_code 0 = .ok (.aload_n 0, 1) := by decide +kernel
theorem own_d1_1 : decode prog_27_method_1_code 1 = .ok (.invokespecial 1, 3) := by decide +kernel
theorem own_d1_4 : decode prog_27_method_1_code 4 = .ok (.aload_n 0, 1) := by decide +kernel
theorem own_d1_5 : decode prog_27_method_1_code 5 = .ok (.iload_n 1, 1) := by decide +kernel
theorem own_d1_6 : decode prog_27_method_1_code 6 = .ok (.putfield 7, 3) := by decide +kernel
theorem own_d1_9 : decode prog_27_method_1_code 9 = .ok (.aload_n 0, 1) := by decide +kernel
theorem own_d1_10 : decode prog_27_method_1_code 10 = .ok (.iload_n 2, 1) := by decide +kernel
theorem own_d1_11 : decode prog_27_method_1_code 11 = .ok (.putfield 13, 3) := by decide +kernel
theorem own_d1_14 : decode prog_27_method_1_code 14 = .ok (.aload_n 0, 1) := by decide +kernel
theorem own_d1_15 : decode prog_27_method_1_code 15 = .ok (.lload_n 3, 1) := by decide +kernel
theorem own_d1_16 : decode prog_27_method_1_code 16 = .ok (.putfield 16, 3) := by decide +kernel
theorem own_d1_19 : decode prog_27_method_1_code 19 = .ok (.return_, 1) := by decide +kernel
theorem own_ef1 (m : MethodId) (x0 : Addr) (x1 : Int32) (x2 : Int32) (x3 : Int64) : entryFrame m #[(.ref x0), (.int x1), (.int x2), (.long x3)] 5 = mkF m 0 #[.val (.ref x0), .val (.int x1), .val (.int x2), .val (.long x3), .second] [] := by first | (simp [entryFrame, mkF, argsToLocals, Value.category]; done) | rfl
def own_Q1 (Z : State) (a1 : Addr) (p2 : Int32) (p3 : Int32) (q4 : Int64) (u0 : Value) (u1 : Value) (u2 : Value) (unf : Int32) (unp : Int32) (ub : Int64) (h0 : Heap) (n0 : Nat) (v : Option Value) (h : Heap) (L : List Loc) : Prop := v = none ∧ Fr n0 L ∧ Keep h0 h [a1] ∧ Exa Z h a1 "com/example/leafcutter/leafcutter/LeaseRoom" ∧ Fld Z h a1 "com/example/leafcutter/leafcutter/LeaseRoom" "mCapacity" "I" (.int p2) ∧ Fld Z h a1 "com/example/leafcutter/leafcutter/LeaseRoom" "mFreeResults" "I" (.int p3) ∧ Fld Z h a1 "com/example/leafcutter/leafcutter/LeaseRoom" "mFreeOutputBytes" "J" (.long q4) ∧ Fld Z h a1 "com/example/leafcutter/leafcutter/LeaseRoom" "mUnfinished" "I" (.int unf) ∧ Fld Z h a1 "com/example/leafcutter/leafcutter/LeaseRoom" "mUnposted" "I" (.int unp) ∧ Fld Z h a1 "com/example/leafcutter/leafcutter/LeaseRoom" "mUnpostedBytes" "J" (.long ub)
set_option maxRecDepth 65536 in
set_option maxHeartbeats 40000000 in
theorem rm1 (l : Launch) (Z : State) (a0 : Array Value) (hw : ∀ d ∈ tables_1, d.before a0 Z = true) (ws : List Jvm.Cond) (a1 : Addr) (p2 : Int32) (p3 : Int32) (q4 : Int64) (u0 : Value) (u1 : Value) (u2 : Value) (unf : Int32) (unp : Int32) (ub : Int64) (h0 : Heap) (n0 : Nat) (Z0 : n0 ≤ h0.size) (E_a1 : Exa Z h0 a1 "com/example/leafcutter/leafcutter/LeaseRoom") (F_mCapacity_a1 : Fld Z h0 a1 "com/example/leafcutter/leafcutter/LeaseRoom" "mCapacity" "I" u0) (F_mFreeResults_a1 : Fld Z h0 a1 "com/example/leafcutter/leafcutter/LeaseRoom" "mFreeResults" "I" u1) (F_mFreeOutputBytes_a1 : Fld Z h0 a1 "com/example/leafcutter/leafcutter/LeaseRoom" "mFreeOutputBytes" "J" u2) (F_mUnfinished_a1 : Fld Z h0 a1 "com/example/leafcutter/leafcutter/LeaseRoom" "mUnfinished" "I" (.int unf)) (F_mUnposted_a1 : Fld Z h0 a1 "com/example/leafcutter/leafcutter/LeaseRoom" "mUnposted" "I" (.int unp)) (F_mUnpostedBytes_a1 : Fld Z h0 a1 "com/example/leafcutter/leafcutter/LeaseRoom" "mUnpostedBytes" "J" (.long ub)) (g_a1 : n0 ≤ a1) :
    MetFree l (⟨"com/example/leafcutter/leafcutter/LeaseRoom", "<init>", "(IIJ)V"⟩ : MethodName) (head1 (Jvm.Cond.code (⟨"com/example/leafcutter/leafcutter/LeaseRoom", "<init>", "(IIJ)V"⟩ : MethodName) prog_27_method_1_code 5 none :: ws) ({ frames := 1, cells := 0, slots := 0, locals := 12 } : Room)) (fun a U => a = #[(.ref a1), (.int p2), (.int p3), (.long q4)] ∧ Z.Warmed39 U.vm ∧ U.heap = h0) (fun _ _ _ _ _ => True) (fun _ U o U' => ∃ v L, o = .returned v ∧ own_Q1 Z a1 p2 p3 q4 u0 u1 u2 unf unp ub h0 n0 v U'.heap L ∧ FrameEnd U o U' L ({ frames := 1, cells := 0, slots := 0, locals := 12 } : Room).cells ({ frames := 1, cells := 0, slots := 0, locals := 12 } : Room).slots) := by
  refine MetFree.of_bodySF (plainFor_of_name own_pn1) hisR ?_
  intro p e s m args below meth c s₁ Bd hml0 hP hK
  obtain ⟨rfl, hZ, hh⟩ := hP
  have hx := Bd.exec
  have hby := Bd.bytes
  have hml : c.maxLocals = 5 := hml0
  have hown : s.vm.findClass "com/example/leafcutter/leafcutter/LeaseRoom" = some m.cls := findClass_of_methodNamed Bd.named
  have hnm := (name_of_methodNamed Bd.named Bd.method).1
  have X0 : Stand p l e ({ frames := 1, cells := 0, slots := 0, locals := 12 } : Room) s m #[(.ref a1), (.int p2), (.int p3), (.long q4)] below meth c s₁ [] 0 0 := Stand.of_body Bd
  have e0 : s₁.heap = h0 := by rw [← hh, Bd.state]; rfl
  have N0 := Fr.nil n0
  have pre0 : ∀ t, Steps p.tables e below (s₁.setTop (mkF m 0 #[.val (.ref a1), .val (.int p2), .val (.int p3), .val (.long q4), .second] [])) t → Steps p.tables e below (s₁.setTop (entryFrame m #[(.ref a1), (.int p2), (.int p3), (.long q4)] 5)) t := fun t k => castTop (own_ef1 m a1 p2 p3 q4) k
  have K0 := Keep.refl h0 [a1]
  obtain ⟨T1, X1, e1, st1⟩ := initO X0 hx hZ hown (hw _ (List.mem_of_getElem? (i := 9) rfl)) (hw _ (List.mem_of_getElem? (i := 10) rfl)) (hw _ (List.mem_of_getElem? (i := 11) rfl)) e0 (g := (mkF m 1 #[.val (.ref a1), .val (.int p2), .val (.int p3), .val (.long q4), .second] [(.ref a1)])) rfl (by rw [hml]; rfl) rfl (hb hby own_d1_1) (by decide) (W := 0) (by show 2 * 0 + _ ≤ _; exact Nat.le_of_eq rfl) (by decide)
  obtain ⟨T2, h2, X2, e2, W2, st2⟩ := putF X1 hx hZ hown (host := "") (Or.inl (hw _ (List.mem_of_getElem? (i := 12) rfl))) Via.refl e1 F_mCapacity_a1 E_a1 (Or.inr ⟨(hw _ (List.mem_of_getElem? (i := 13) rfl)), rfl, hnm⟩) (hw _ (List.mem_of_getElem? (i := 4) rfl)) (ty := .int) (by decide) rfl rfl (g := (mkF m 6 #[.val (.ref a1), .val (.int p2), .val (.int p3), .val (.long q4), .second] [(.int p2), (.ref a1)])) rfl rfl (hb hby own_d1_6)
  have E_a1 := E_a1.wr W2
  have F_mFreeResults_a1 := F_mFreeResults_a1.other W2 (Or.inr (slot_ne (Or.inr (hw _ (List.mem_of_getElem? (i := 15) rfl))) (Or.inr (hw _ (List.mem_of_getElem? (i := 13) rfl))) (by decide) (t := .int) (t' := .int) (by decide) (by decide)))
  have F_mFreeOutputBytes_a1 := F_mFreeOutputBytes_a1.other W2 (Or.inr (slot_ne (Or.inr (hw _ (List.mem_of_getElem? (i := 17) rfl))) (Or.inr (hw _ (List.mem_of_getElem? (i := 13) rfl))) (by decide) (t := .long) (t' := .int) (by decide) (by decide)))
  have F_mUnfinished_a1 := F_mUnfinished_a1.other W2 (Or.inr (slot_ne (Or.inl (hw _ (List.mem_of_getElem? (i := 24) rfl))) (Or.inr (hw _ (List.mem_of_getElem? (i := 13) rfl))) (by decide) (t := .int) (t' := .int) (by decide) (by decide)))
  have F_mUnposted_a1 := F_mUnposted_a1.other W2 (Or.inr (slot_ne (Or.inl (hw _ (List.mem_of_getElem? (i := 36) rfl))) (Or.inr (hw _ (List.mem_of_getElem? (i := 13) rfl))) (by decide) (t := .int) (t' := .int) (by decide) (by decide)))
  have F_mUnpostedBytes_a1 := F_mUnpostedBytes_a1.other W2 (Or.inr (slot_ne (Or.inl (hw _ (List.mem_of_getElem? (i := 38) rfl))) (Or.inr (hw _ (List.mem_of_getElem? (i := 13) rfl))) (by decide) (t := .long) (t' := .int) (by decide) (by decide)))
  have Z2 : n0 ≤ h2.size := Nat.le_trans Z0 (Keep.of_wr W2).1
  have K2 := K0.wr W2 (Or.inl (List.mem_of_getElem? (i := 0) rfl))
  have N2 := Fr.snoc X2 N0 g_a1
  have F_mCapacity_a1 : Fld Z h2 a1 "com/example/leafcutter/leafcutter/LeaseRoom" "mCapacity" "I" (.int p2) := F_mCapacity_a1.same W2
  obtain ⟨T3, h3, X3, e3, W3, st3⟩ := putF X2 hx hZ hown (host := "") (Or.inl (hw _ (List.mem_of_getElem? (i := 14) rfl))) Via.refl e2 F_mFreeResults_a1 E_a1 (Or.inr ⟨(hw _ (List.mem_of_getElem? (i := 15) rfl)), rfl, hnm⟩) (hw _ (List.mem_of_getElem? (i := 4) rfl)) (ty := .int) (by decide) rfl rfl (g := (mkF m 11 #[.val (.ref a1), .val (.int p2), .val (.int p3), .val (.long q4), .second] [(.int p3), (.ref a1)])) rfl rfl (hb hby own_d1_11)
  have E_a1 := E_a1.wr W3
  have F_mCapacity_a1 := F_mCapacity_a1.other W3 (Or.inr (slot_ne (Or.inr (hw _ (List.mem_of_getElem? (i := 13) rfl))) (Or.inr (hw _ (List.mem_of_getElem? (i := 15) rfl))) (by decide) (t := .int) (t' := .int) (by decide) (by decide)))
  have F_mFreeOutputBytes_a1 := F_mFreeOutputBytes_a1.other W3 (Or.inr (slot_ne (Or.inr (hw _ (List.mem_of_getElem? (i := 17) rfl))) (Or.inr (hw _ (List.mem_of_getElem? (i := 15) rfl))) (by decide) (t := .long) (t' := .int) (by decide) (by decide)))
  have F_mUnfinished_a1 := F_mUnfinished_a1.other W3 (Or.inr (slot_ne (Or.inl (hw _ (List.mem_of_getElem? (i := 24) rfl))) (Or.inr (hw _ (List.mem_of_getElem? (i := 15) rfl))) (by decide) (t := .int) (t' := .int) (by decide) (by decide)))
  have F_mUnposted_a1 := F_mUnposted_a1.other W3 (Or.inr (slot_ne (Or.inl (hw _ (List.mem_of_getElem? (i := 36) rfl))) (Or.inr (hw _ (List.mem_of_getElem? (i := 15) rfl))) (by decide) (t := .int) (t' := .int) (by decide) (by decide)))
  have F_mUnpostedBytes_a1 := F_mUnpostedBytes_a1.other W3 (Or.inr (slot_ne (Or.inl (hw _ (List.mem_of_getElem? (i := 38) rfl))) (Or.inr (hw _ (List.mem_of_getElem? (i := 15) rfl))) (by decide) (t := .long) (t' := .int) (by decide) (by decide)))
  have Z3 : n0 ≤ h3.size := Nat.le_trans Z2 (Keep.of_wr W3).1
  have K3 := K2.wr W3 (Or.inl (List.mem_of_getElem? (i := 0) rfl))
  have N3 := Fr.snoc X3 N2 g_a1
  have F_mFreeResults_a1 : Fld Z h3 a1 "com/example/leafcutter/leafcutter/LeaseRoom" "mFreeResults" "I" (.int p3) := F_mFreeResults_a1.same W3
  obtain ⟨T4, h4, X4, e4, W4, st4⟩ := putF X3 hx hZ hown (host := "") (Or.inl (hw _ (List.mem_of_getElem? (i := 16) rfl))) Via.refl e3 F_mFreeOutputBytes_a1 E_a1 (Or.inr ⟨(hw _ (List.mem_of_getElem? (i := 17) rfl)), rfl, hnm⟩) (hw _ (List.mem_of_getElem? (i := 4) rfl)) (ty := .long) (by decide) rfl rfl (g := (mkF m 16 #[.val (.ref a1), .val (.int p2), .val (.int p3), .val (.long q4), .second] [(.long q4), (.ref a1)])) rfl rfl (hb hby own_d1_16)
  have E_a1 := E_a1.wr W4
  have F_mCapacity_a1 := F_mCapacity_a1.other W4 (Or.inr (slot_ne (Or.inr (hw _ (List.mem_of_getElem? (i := 13) rfl))) (Or.inr (hw _ (List.mem_of_getElem? (i := 17) rfl))) (by decide) (t := .int) (t' := .long) (by decide) (by decide)))
  have F_mFreeResults_a1 := F_mFreeResults_a1.other W4 (Or.inr (slot_ne (Or.inr (hw _ (List.mem_of_getElem? (i := 15) rfl))) (Or.inr (hw _ (List.mem_of_getElem? (i := 17) rfl))) (by decide) (t := .int) (t' := .long) (by decide) (by decide)))
  have F_mUnfinished_a1 := F_mUnfinished_a1.other W4 (Or.inr (slot_ne (Or.inl (hw _ (List.mem_of_getElem? (i := 24) rfl))) (Or.inr (hw _ (List.mem_of_getElem? (i := 17) rfl))) (by decide) (t := .int) (t' := .long) (by decide) (by decide)))
  have F_mUnposted_a1 := F_mUnposted_a1.other W4 (Or.inr (slot_ne (Or.inl (hw _ (List.mem_of_getElem? (i := 36) rfl))) (Or.inr (hw _ (List.mem_of_getElem? (i := 17) rfl))) (by decide) (t := .int) (t' := .long) (by decide) (by decide)))
  have F_mUnpostedBytes_a1 := F_mUnpostedBytes_a1.other W4 (Or.inr (slot_ne (Or.inl (hw _ (List.mem_of_getElem? (i := 38) rfl))) (Or.inr (hw _ (List.mem_of_getElem? (i := 17) rfl))) (by decide) (t := .long) (t' := .long) (by decide) (by decide)))
  have Z4 : n0 ≤ h4.size := Nat.le_trans Z3 (Keep.of_wr W4).1
  have K4 := K3.wr W4 (Or.inl (List.mem_of_getElem? (i := 0) rfl))
  have N4 := Fr.snoc X4 N3 g_a1
  have F_mFreeOutputBytes_a1 : Fld Z h4 a1 "com/example/leafcutter/leafcutter/LeaseRoom" "mFreeOutputBytes" "J" (.long q4) := F_mFreeOutputBytes_a1.same W4
  have pre5 : ∀ t, Steps p.tables e below (T4.setTop (mkF m 19 #[.val (.ref a1), .val (.int p2), .val (.int p3), .val (.long q4), .second] [])) t → Steps p.tables e below (s₁.setTop (entryFrame m #[(.ref a1), (.int p2), (.int p3), (.long q4)] 5)) t := by
    intro t k
    refine pre0 _ ?_
    show Steps p.tables e below (s₁.setTop (mkF m 0 #[.val (.ref a1), .val (.int p2), .val (.int p3), .val (.long q4), .second] [])) _
    refine XS.aloadN X0.here hx rfl (hb hby own_d1_0) rfl rfl ?_
    show Steps p.tables e below (s₁.setTop (mkF m 1 #[.val (.ref a1), .val (.int p2), .val (.int p3), .val (.long q4), .second] [(.ref a1)])) _
    refine st1 _ ?_
    show Steps p.tables e below (T1.setTop (mkF m 4 #[.val (.ref a1), .val (.int p2), .val (.int p3), .val (.long q4), .second] [])) _
    refine XS.aloadN X1.here hx rfl (hb hby own_d1_4) rfl rfl ?_
    show Steps p.tables e below (T1.setTop (mkF m 5 #[.val (.ref a1), .val (.int p2), .val (.int p3), .val (.long q4), .second] [(.ref a1)])) _
    refine XS.iloadN X1.here hx rfl (hb hby own_d1_5) rfl ?_
    show Steps p.tables e below (T1.setTop (mkF m 6 #[.val (.ref a1), .val (.int p2), .val (.int p3), .val (.long q4), .second] [(.int p2), (.ref a1)])) _
    refine st2 _ ?_
    show Steps p.tables e below (T2.setTop (mkF m 9 #[.val (.ref a1), .val (.int p2), .val (.int p3), .val (.long q4), .second] [])) _
    refine XS.aloadN X2.here hx rfl (hb hby own_d1_9) rfl rfl ?_
    show Steps p.tables e below (T2.setTop (mkF m 10 #[.val (.ref a1), .val (.int p2), .val (.int p3), .val (.long q4), .second] [(.ref a1)])) _
    refine XS.iloadN X2.here hx rfl (hb hby own_d1_10) rfl ?_
    show Steps p.tables e below (T2.setTop (mkF m 11 #[.val (.ref a1), .val (.int p2), .val (.int p3), .val (.long q4), .second] [(.int p3), (.ref a1)])) _
    refine st3 _ ?_
    show Steps p.tables e below (T3.setTop (mkF m 14 #[.val (.ref a1), .val (.int p2), .val (.int p3), .val (.long q4), .second] [])) _
    refine XS.aloadN X3.here hx rfl (hb hby own_d1_14) rfl rfl ?_
    show Steps p.tables e below (T3.setTop (mkF m 15 #[.val (.ref a1), .val (.int p2), .val (.int p3), .val (.long q4), .second] [(.ref a1)])) _
    refine XS.lloadN X3.here hx rfl (hb hby own_d1_15) rfl ?_
    show Steps p.tables e below (T3.setTop (mkF m 16 #[.val (.ref a1), .val (.int p2), .val (.int p3), .val (.long q4), .second] [(.long q4), (.ref a1)])) _
    refine st4 _ ?_
    exact k
  obtain ⟨fs, hr, hrun, hended, hW, hsame⟩ := X4.leave (v := none) (fun _ => rfl)
  refine ⟨_, _, pre5 _ ?_, hrun, hended, _, _, rfl, ?_, ⟨_, rfl⟩, hW, hsame.mono (by decide) (by decide)⟩
  · show Steps p.tables e below (T4.setTop (mkF m 19 #[.val (.ref a1), .val (.int p2), .val (.int p3), .val (.long q4), .second] [])) _
    exact X4.returnOut hx Bd.returns (hb hby own_d1_19) hr
  · show own_Q1 Z a1 p2 p3 q4 u0 u1 u2 unf unp ub h0 n0 _ T4.heap _
    rw [e4]
    exact ⟨rfl, N4, K4, E_a1, F_mCapacity_a1, F_mFreeResults_a1, F_mFreeOutputBytes_a1, F_mUnfinished_a1, F_mUnposted_a1, F_mUnpostedBytes_a1⟩
theorem own_d3_0 : decode prog_27_method_3_code 0 = .ok (.aload_n 0, 1) := by decide +kernel
theorem own_d3_1 : decode prog_27_method_3_code 1 = .ok (.dup, 1) := by decide +kernel
theorem own_d3_2 : decode prog_27_method_3_code 2 = .ok (.getfield 26, 3) := by decide +kernel
theorem own_d3_5 : decode prog_27_method_3_code 5 = .ok (.iload_n 1, 1) := by decide +kernel
theorem own_d3_6 : decode prog_27_method_3_code 6 = .ok (.iadd, 1) := by decide +kernel
theorem own_d3_7 : decode prog_27_method_3_code 7 = .ok (.putfield 26, 3) := by decide +kernel
theorem own_d3_10 : decode prog_27_method_3_code 10 = .ok (.return_, 1) := by decide +kernel
theorem own_ef3 (m : MethodId) (x0 : Addr) (x1 : Int32) : entryFrame m #[(.ref x0), (.int x1)] 2 = mkF m 0 #[.val (.ref x0), .val (.int x1)] [] := by first | (simp [entryFrame, mkF, argsToLocals, Value.category]; done) | rfl
def own_Q3 (Z : State) (a1 : Addr) (p2 : Int32) (cap : Int32) (fr : Int32) (fb : Int64) (unf : Int32) (unp : Int32) (ub : Int64) (h0 : Heap) (n0 : Nat) (v : Option Value) (h : Heap) (L : List Loc) : Prop := v = none ∧ Fr n0 L ∧ Keep h0 h [a1] ∧ Exa Z h a1 "com/example/leafcutter/leafcutter/LeaseRoom" ∧ Fld Z h a1 "com/example/leafcutter/leafcutter/LeaseRoom" "mCapacity" "I" (.int cap) ∧ Fld Z h a1 "com/example/leafcutter/leafcutter/LeaseRoom" "mFreeResults" "I" (.int fr) ∧ Fld Z h a1 "com/example/leafcutter/leafcutter/LeaseRoom" "mFreeOutputBytes" "J" (.long fb) ∧ Fld Z h a1 "com/example/leafcutter/leafcutter/LeaseRoom" "mUnfinished" "I" (.int (unf + p2)) ∧ Fld Z h a1 "com/example/leafcutter/leafcutter/LeaseRoom" "mUnposted" "I" (.int unp) ∧ Fld Z h a1 "com/example/leafcutter/leafcutter/LeaseRoom" "mUnpostedBytes" "J" (.long ub)
set_option maxRecDepth 65536 in
set_option maxHeartbeats 40000000 in
theorem rm3 (l : Launch) (Z : State) (a0 : Array Value) (hw : ∀ d ∈ tables_1, d.before a0 Z = true) (ws : List Jvm.Cond) (a1 : Addr) (p2 : Int32) (cap : Int32) (fr : Int32) (fb : Int64) (unf : Int32) (unp : Int32) (ub : Int64) (h0 : Heap) (n0 : Nat) (Z0 : n0 ≤ h0.size) (E_a1 : Exa Z h0 a1 "com/example/leafcutter/leafcutter/LeaseRoom") (F_mCapacity_a1 : Fld Z h0 a1 "com/example/leafcutter/leafcutter/LeaseRoom" "mCapacity" "I" (.int cap)) (F_mFreeResults_a1 : Fld Z h0 a1 "com/example/leafcutter/leafcutter/LeaseRoom" "mFreeResults" "I" (.int fr)) (F_mFreeOutputBytes_a1 : Fld Z h0 a1 "com/example/leafcutter/leafcutter/LeaseRoom" "mFreeOutputBytes" "J" (.long fb)) (F_mUnfinished_a1 : Fld Z h0 a1 "com/example/leafcutter/leafcutter/LeaseRoom" "mUnfinished" "I" (.int unf)) (F_mUnposted_a1 : Fld Z h0 a1 "com/example/leafcutter/leafcutter/LeaseRoom" "mUnposted" "I" (.int unp)) (F_mUnpostedBytes_a1 : Fld Z h0 a1 "com/example/leafcutter/leafcutter/LeaseRoom" "mUnpostedBytes" "J" (.long ub)) (g_a1 : n0 ≤ a1) :
    MetFree l (⟨"com/example/leafcutter/leafcutter/LeaseRoom", "ask", "(I)V"⟩ : MethodName) (head1 (Jvm.Cond.code (⟨"com/example/leafcutter/leafcutter/LeaseRoom", "ask", "(I)V"⟩ : MethodName) prog_27_method_3_code 2 none :: ws) ({ frames := 0, cells := 0, slots := 0, locals := 0 } : Room)) (fun a U => a = #[(.ref a1), (.int p2)] ∧ Z.Warmed39 U.vm ∧ U.heap = h0) (fun _ _ _ _ _ => True) (fun _ U o U' => ∃ v L, o = .returned v ∧ own_Q3 Z a1 p2 cap fr fb unf unp ub h0 n0 v U'.heap L ∧ FrameEnd U o U' L ({ frames := 0, cells := 0, slots := 0, locals := 0 } : Room).cells ({ frames := 0, cells := 0, slots := 0, locals := 0 } : Room).slots) := by
  refine MetFree.of_bodySF (plainFor_of_name own_pn3) hisR ?_
  intro p e s m args below meth c s₁ Bd hml0 hP hK
  obtain ⟨rfl, hZ, hh⟩ := hP
  have hx := Bd.exec
  have hby := Bd.bytes
  have hml : c.maxLocals = 2 := hml0
  have hown : s.vm.findClass "com/example/leafcutter/leafcutter/LeaseRoom" = some m.cls := findClass_of_methodNamed Bd.named
  have hnm := (name_of_methodNamed Bd.named Bd.method).1
  have X0 : Stand p l e ({ frames := 0, cells := 0, slots := 0, locals := 0 } : Room) s m #[(.ref a1), (.int p2)] below meth c s₁ [] 0 0 := Stand.of_body Bd
  have e0 : s₁.heap = h0 := by rw [← hh, Bd.state]; rfl
  have N0 := Fr.nil n0
  have pre0 : ∀ t, Steps p.tables e below (s₁.setTop (mkF m 0 #[.val (.ref a1), .val (.int p2)] [])) t → Steps p.tables e below (s₁.setTop (entryFrame m #[(.ref a1), (.int p2)] 2)) t := fun t k => castTop (own_ef3 m a1 p2) k
  have K0 := Keep.refl h0 [a1]
  obtain ⟨T1, X1, e1, st1⟩ := getF X0 hx hZ hown (host := "") (Or.inl (hw _ (List.mem_of_getElem? (i := 23) rfl))) Via.refl e0 F_mUnfinished_a1 (g := (mkF m 2 #[.val (.ref a1), .val (.int p2)] [(.ref a1), (.ref a1)])) rfl rfl (hb hby own_d3_2)
  obtain ⟨T2, h2, X2, e2, W2, st2⟩ := putF X1 hx hZ hown (host := "") (Or.inl (hw _ (List.mem_of_getElem? (i := 23) rfl))) Via.refl e1 F_mUnfinished_a1 E_a1 (Or.inl (hw _ (List.mem_of_getElem? (i := 24) rfl))) (hw _ (List.mem_of_getElem? (i := 4) rfl)) (ty := .int) (by decide) rfl rfl (g := (mkF m 7 #[.val (.ref a1), .val (.int p2)] [(.int (unf + p2)), (.ref a1)])) rfl rfl (hb hby own_d3_7)
  have E_a1 := E_a1.wr W2
  have F_mCapacity_a1 := F_mCapacity_a1.other W2 (Or.inr (slot_ne (Or.inr (hw _ (List.mem_of_getElem? (i := 13) rfl))) (Or.inl (hw _ (List.mem_of_getElem? (i := 24) rfl))) (by decide) (t := .int) (t' := .int) (by decide) (by decide)))
  have F_mFreeResults_a1 := F_mFreeResults_a1.other W2 (Or.inr (slot_ne (Or.inr (hw _ (List.mem_of_getElem? (i := 15) rfl))) (Or.inl (hw _ (List.mem_of_getElem? (i := 24) rfl))) (by decide) (t := .int) (t' := .int) (by decide) (by decide)))
  have F_mFreeOutputBytes_a1 := F_mFreeOutputBytes_a1.other W2 (Or.inr (slot_ne (Or.inr (hw _ (List.mem_of_getElem? (i := 17) rfl))) (Or.inl (hw _ (List.mem_of_getElem? (i := 24) rfl))) (by decide) (t := .long) (t' := .int) (by decide) (by decide)))
  have F_mUnposted_a1 := F_mUnposted_a1.other W2 (Or.inr (slot_ne (Or.inl (hw _ (List.mem_of_getElem? (i := 36) rfl))) (Or.inl (hw _ (List.mem_of_getElem? (i := 24) rfl))) (by decide) (t := .int) (t' := .int) (by decide) (by decide)))
  have F_mUnpostedBytes_a1 := F_mUnpostedBytes_a1.other W2 (Or.inr (slot_ne (Or.inl (hw _ (List.mem_of_getElem? (i := 38) rfl))) (Or.inl (hw _ (List.mem_of_getElem? (i := 24) rfl))) (by decide) (t := .long) (t' := .int) (by decide) (by decide)))
  have Z2 : n0 ≤ h2.size := Nat.le_trans Z0 (Keep.of_wr W2).1
  have K2 := K0.wr W2 (Or.inl (List.mem_of_getElem? (i := 0) rfl))
  have N2 := Fr.snoc X2 N0 g_a1
  have F_mUnfinished_a1 : Fld Z h2 a1 "com/example/leafcutter/leafcutter/LeaseRoom" "mUnfinished" "I" (.int (unf + p2)) := F_mUnfinished_a1.same W2
  have pre3 : ∀ t, Steps p.tables e below (T2.setTop (mkF m 10 #[.val (.ref a1), .val (.int p2)] [])) t → Steps p.tables e below (s₁.setTop (entryFrame m #[(.ref a1), (.int p2)] 2)) t := by
    intro t k
    refine pre0 _ ?_
    show Steps p.tables e below (s₁.setTop (mkF m 0 #[.val (.ref a1), .val (.int p2)] [])) _
    refine XS.aloadN X0.here hx rfl (hb hby own_d3_0) rfl rfl ?_
    show Steps p.tables e below (s₁.setTop (mkF m 1 #[.val (.ref a1), .val (.int p2)] [(.ref a1)])) _
    refine XS.dup X0.here hx rfl (hb hby own_d3_1) rfl rfl ?_
    show Steps p.tables e below (s₁.setTop (mkF m 2 #[.val (.ref a1), .val (.int p2)] [(.ref a1), (.ref a1)])) _
    refine st1 _ ?_
    show Steps p.tables e below (T1.setTop (mkF m 5 #[.val (.ref a1), .val (.int p2)] [(.int unf), (.ref a1)])) _
    refine XS.iloadN X1.here hx rfl (hb hby own_d3_5) rfl ?_
    show Steps p.tables e below (T1.setTop (mkF m 6 #[.val (.ref a1), .val (.int p2)] [(.int p2), (.int unf), (.ref a1)])) _
    refine XS.iadd X1.here hx rfl (hb hby own_d3_6) rfl ?_
    show Steps p.tables e below (T1.setTop (mkF m 7 #[.val (.ref a1), .val (.int p2)] [(.int (unf + p2)), (.ref a1)])) _
    refine st2 _ ?_
    exact k
  obtain ⟨fs, hr, hrun, hended, hW, hsame⟩ := X2.leave (v := none) (fun _ => rfl)
  refine ⟨_, _, pre3 _ ?_, hrun, hended, _, _, rfl, ?_, ⟨_, rfl⟩, hW, hsame.mono (by decide) (by decide)⟩
  · show Steps p.tables e below (T2.setTop (mkF m 10 #[.val (.ref a1), .val (.int p2)] [])) _
    exact X2.returnOut hx Bd.returns (hb hby own_d3_10) hr
  · show own_Q3 Z a1 p2 cap fr fb unf unp ub h0 n0 _ T2.heap _
    rw [e2]
    exact ⟨rfl, N2, K2, E_a1, F_mCapacity_a1, F_mFreeResults_a1, F_mFreeOutputBytes_a1, F_mUnfinished_a1, F_mUnposted_a1, F_mUnpostedBytes_a1⟩
theorem own_d6_0 : decode jdk_29_method_65_code 0 = .ok (.iload_n 0, 1) := by decide +kernel
theorem own_d6_1 : decode jdk_29_method_65_code 1 = .ok (.iload_n 1, 1) := by decide +kernel
theorem own_d6_2 : decode jdk_29_method_65_code 2 = .ok (.if_icmp .lt 7, 3) := by decide +kernel
theorem own_d6_5 : decode jdk_29_method_65_code 5 = .ok (.iload_n 0, 1) := by decide +kernel
theorem own_d6_6 : decode jdk_29_method_65_code 6 = .ok (.goto 4, 3) := by decide +kernel
theorem own_d6_9 : decode jdk_29_method_65_code 9 = .ok (.iload_n 1, 1) := by decide +kernel
theorem own_d6_10 : decode jdk_29_method_65_code 10 = .ok (.ireturn, 1) := by decide +kernel
theorem own_ef6 (m : MethodId) (x0 : Int32) (x1 : Int32) : entryFrame m #[(.int x0), (.int x1)] 2 = mkF m 0 #[.val (.int x0), .val (.int x1)] [] := by first | (simp [entryFrame, mkF, argsToLocals, Value.category]; done) | rfl
def own_Q6 (Z : State) (p1 : Int32) (p2 : Int32) (h0 : Heap) (n0 : Nat) (v : Option Value) (h : Heap) (L : List Loc) : Prop := v = some (.int (own_max p1 p2)) ∧ Fr n0 L ∧ h = h0
set_option maxRecDepth 65536 in
set_option maxHeartbeats 40000000 in
theorem rm6 (l : Launch) (Z : State) (a0 : Array Value) (hw : ∀ d ∈ tables_1, d.before a0 Z = true) (ws : List Jvm.Cond) (p1 : Int32) (p2 : Int32) (h0 : Heap) (n0 : Nat) (Z0 : n0 ≤ h0.size)  :
    MetFree l (⟨"java/lang/Math", "max", "(II)I"⟩ : MethodName) (head1 (Jvm.Cond.code (⟨"java/lang/Math", "max", "(II)I"⟩ : MethodName) jdk_29_method_65_code 2 (some .int) :: ws) ({ frames := 0, cells := 0, slots := 0, locals := 0 } : Room)) (fun a U => a = #[(.int p1), (.int p2)] ∧ Z.Warmed39 U.vm ∧ U.heap = h0) (fun _ _ _ _ _ => True) (fun _ U o U' => ∃ v L, o = .returned v ∧ own_Q6 Z p1 p2 h0 n0 v U'.heap L ∧ FrameEnd U o U' L ({ frames := 0, cells := 0, slots := 0, locals := 0 } : Room).cells ({ frames := 0, cells := 0, slots := 0, locals := 0 } : Room).slots) := by
  refine MetFree.of_bodySF (Jvm.Free.JP.mathPlain rfl (by decide +kernel)) hisR ?_
  intro p e s m args below meth c s₁ Bd hml0 hP hK
  obtain ⟨rfl, hZ, hh⟩ := hP
  have hx := Bd.exec
  have hby := Bd.bytes
  have hml : c.maxLocals = 2 := hml0
  have hown : s.vm.findClass "java/lang/Math" = some m.cls := findClass_of_methodNamed Bd.named
  have hnm := (name_of_methodNamed Bd.named Bd.method).1
  have X0 : Stand p l e ({ frames := 0, cells := 0, slots := 0, locals := 0 } : Room) s m #[(.int p1), (.int p2)] below meth c s₁ [] 0 0 := Stand.of_body Bd
  have e0 : s₁.heap = h0 := by rw [← hh, Bd.state]; rfl
  have N0 := Fr.nil n0
  have pre0 : ∀ t, Steps p.tables e below (s₁.setTop (mkF m 0 #[.val (.int p1), .val (.int p2)] [])) t → Steps p.tables e below (s₁.setTop (entryFrame m #[(.int p1), (.int p2)] 2)) t := fun t k => castTop (own_ef6 m p1 p2) k
  have pre1 : ∀ t, Steps p.tables e below (s₁.setTop (mkF m 2 #[.val (.int p1), .val (.int p2)] [(.int p2), (.int p1)])) t → Steps p.tables e below (s₁.setTop (entryFrame m #[(.int p1), (.int p2)] 2)) t := by
    intro t k
    refine pre0 _ ?_
    show Steps p.tables e below (s₁.setTop (mkF m 0 #[.val (.int p1), .val (.int p2)] [])) _
    refine XS.iloadN X0.here hx rfl (hb hby own_d6_0) rfl ?_
    show Steps p.tables e below (s₁.setTop (mkF m 1 #[.val (.int p1), .val (.int p2)] [(.int p1)])) _
    refine XS.iloadN X0.here hx rfl (hb hby own_d6_1) rfl ?_
    exact k
  by_cases hc2 : p1 < p2
  · -- hc2 
    have pre2 : ∀ t, Steps p.tables e below (s₁.setTop (mkF m 10 #[.val (.int p1), .val (.int p2)] [(.int p2)])) t → Steps p.tables e below (s₁.setTop (entryFrame m #[(.int p1), (.int p2)] 2)) t := by
      intro t k
      refine pre1 _ ?_
      show Steps p.tables e below (s₁.setTop (mkF m 2 #[.val (.int p1), .val (.int p2)] [(.int p2), (.int p1)])) _
      refine XS.icmpYes X0.here hx rfl (pc0 := 2) (pc' := 9) rfl (hb hby own_d6_2) rfl (tlt hc2).1 (by decide) (by decide) ?_
      show Steps p.tables e below (s₁.setTop (mkF m 9 #[.val (.int p1), .val (.int p2)] [])) _
      refine XS.iloadN X0.here hx rfl (hb hby own_d6_9) rfl ?_
      exact k
    obtain ⟨fs, hr, hrun, hended, hW, hsame⟩ := X0.leave (v := some (.int p2)) (fun h => by rw [Bd.returns] at h; cases h)
    refine ⟨_, _, pre2 _ ?_, hrun, hended, _, _, rfl, ?_, ⟨_, rfl⟩, hW, hsame.mono (by decide) (by decide)⟩
    · show Steps p.tables e below (s₁.setTop (mkF m 10 #[.val (.int p1), .val (.int p2)] [(.int p2)])) _
      exact retI X0 hx Bd.returns (hb hby own_d6_10) hr
    · show own_Q6 Z p1 p2 h0 n0 _ s₁.heap _
      rw [e0]
      exact ⟨congrArg (fun z => some (Value.int z)) (show p2 = (own_max p1 p2) from own_max1 hc2), N0, rfl⟩
  · -- hc2 not
    have pre3 : ∀ t, Steps p.tables e below (s₁.setTop (mkF m 10 #[.val (.int p1), .val (.int p2)] [(.int p1)])) t → Steps p.tables e below (s₁.setTop (entryFrame m #[(.int p1), (.int p2)] 2)) t := by
      intro t k
      refine pre1 _ ?_
      show Steps p.tables e below (s₁.setTop (mkF m 2 #[.val (.int p1), .val (.int p2)] [(.int p2), (.int p1)])) _
      refine XS.icmpNo X0.here hx rfl (hb hby own_d6_2) rfl (flt hc2).1 ?_
      show Steps p.tables e below (s₁.setTop (mkF m 5 #[.val (.int p1), .val (.int p2)] [])) _
      refine XS.iloadN X0.here hx rfl (hb hby own_d6_5) rfl ?_
      show Steps p.tables e below (s₁.setTop (mkF m 6 #[.val (.int p1), .val (.int p2)] [(.int p1)])) _
      refine XS.goto X0.here hx rfl (pc0 := 6) (pc' := 10) rfl (hb hby own_d6_6) (by decide) (by decide) ?_
      exact k
    obtain ⟨fs, hr, hrun, hended, hW, hsame⟩ := X0.leave (v := some (.int p1)) (fun h => by rw [Bd.returns] at h; cases h)
    refine ⟨_, _, pre3 _ ?_, hrun, hended, _, _, rfl, ?_, ⟨_, rfl⟩, hW, hsame.mono (by decide) (by decide)⟩
    · show Steps p.tables e below (s₁.setTop (mkF m 10 #[.val (.int p1), .val (.int p2)] [(.int p1)])) _
      exact retI X0 hx Bd.returns (hb hby own_d6_10) hr
    · show own_Q6 Z p1 p2 h0 n0 _ s₁.heap _
      rw [e0]
      exact ⟨congrArg (fun z => some (Value.int z)) (show p1 = (own_max p1 p2) from own_max0 hc2), N0, rfl⟩
theorem own_d5_0 : decode prog_27_method_2_code 0 = .ok (.aload_n 0, 1) := by decide +kernel
theorem own_d5_1 : decode prog_27_method_2_code 1 = .ok (.getfield 20, 3) := by decide +kernel
theorem own_d5_4 : decode prog_27_method_2_code 4 = .ok (.aload_n 0, 1) := by decide +kernel
theorem own_d5_5 : decode prog_27_method_2_code 5 = .ok (.getfield 13, 3) := by decide +kernel
theorem own_d5_8 : decode prog_27_method_2_code 8 = .ok (.if_icmp .ge 19, 3) := by decide +kernel
theorem own_d5_11 : decode prog_27_method_2_code 11 = .ok (.aload_n 0, 1) := by decide +kernel
theorem own_d5_12 : decode prog_27_method_2_code 12 = .ok (.getfield 23, 3) := by decide +kernel
theorem own_d5_15 : decode prog_27_method_2_code 15 = .ok (.aload_n 0, 1) := by decide +kernel
theorem own_d5_16 : decode prog_27_method_2_code 16 = .ok (.getfield 16, 3) := by decide +kernel
theorem own_d5_19 : decode prog_27_method_2_code 19 = .ok (.lcmp, 1) := by decide +kernel
theorem own_d5_20 : decode prog_27_method_2_code 20 = .ok (.ifCond .ge 7, 3) := by decide +kernel
theorem own_d5_23 : decode prog_27_method_2_code 23 = .ok (.iconst 1, 1) := by decide +kernel
theorem own_d5_24 : decode prog_27_method_2_code 24 = .ok (.goto 4, 3) := by decide +kernel
theorem own_d5_27 : decode prog_27_method_2_code 27 = .ok (.iconst 0, 1) := by decide +kernel
theorem own_d5_28 : decode prog_27_method_2_code 28 = .ok (.istore_n 1, 1) := by decide +kernel
theorem own_d5_29 : decode prog_27_method_2_code 29 = .ok (.iload_n 1, 1) := by decide +kernel
theorem own_d5_30 : decode prog_27_method_2_code 30 = .ok (.ifCond .eq 10, 3) := by decide +kernel
theorem own_d5_33 : decode prog_27_method_2_code 33 = .ok (.aload_n 0, 1) := by decide +kernel
theorem own_d5_34 : decode prog_27_method_2_code 34 = .ok (.getfield 26, 3) := by decide +kernel
theorem own_d5_37 : decode prog_27_method_2_code 37 = .ok (.goto 12, 3) := by decide +kernel
theorem own_d5_40 : decode prog_27_method_2_code 40 = .ok (.aload_n 0, 1) := by decide +kernel
theorem own_d5_41 : decode prog_27_method_2_code 41 = .ok (.getfield 26, 3) := by decide +kernel
theorem own_d5_44 : decode prog_27_method_2_code 44 = .ok (.aload_n 0, 1) := by decide +kernel
theorem own_d5_45 : decode prog_27_method_2_code 45 = .ok (.getfield 20, 3) := by decide +kernel
theorem own_d5_48 : decode prog_27_method_2_code 48 = .ok (.iadd, 1) := by decide +kernel
theorem own_d5_49 : decode prog_27_method_2_code 49 = .ok (.istore_n 2, 1) := by decide +kernel
theorem own_d5_50 : decode prog_27_method_2_code 50 = .ok (.iconst 0, 1) := by decide +kernel
theorem own_d5_51 : decode prog_27_method_2_code 51 = .ok (.aload_n 0, 1) := by decide +kernel
theorem own_d5_52 : decode prog_27_method_2_code 52 = .ok (.getfield 7, 3) := by decide +kernel
theorem own_d5_55 : decode prog_27_method_2_code 55 = .ok (.iload_n 2, 1) := by decide +kernel
theorem own_d5_56 : decode prog_27_method_2_code 56 = .ok (.isub, 1) := by decide +kernel
theorem own_d5_57 : decode prog_27_method_2_code 57 = .ok (.invokestatic 29, 3) := by decide +kernel
theorem own_d5_60 : decode prog_27_method_2_code 60 = .ok (.ireturn, 1) := by decide +kernel
theorem own_ef5 (m : MethodId) (x0 : Addr) : entryFrame m #[(.ref x0)] 3 = mkF m 0 #[.val (.ref x0), .unset, .unset] [] := by first | (simp [entryFrame, mkF, argsToLocals, Value.category]; done) | rfl
def own_Q5 (Z : State) (a1 : Addr) (cap : Int32) (fr : Int32) (fb : Int64) (unf : Int32) (unp : Int32) (ub : Int64) (h0 : Heap) (n0 : Nat) (v : Option Value) (h : Heap) (L : List Loc) : Prop := v = some (.int (own_max (0 : Int32) (cap - (own_held unf unp fr ub fb)))) ∧ Fr n0 L ∧ h = h0
set_option maxRecDepth 65536 in
set_option maxHeartbeats 40000000 in
theorem rm5 (l : Launch) (Z : State) (a0 : Array Value) (hw : ∀ d ∈ tables_1, d.before a0 Z = true) (ws : List Jvm.Cond) (a1 : Addr) (cap : Int32) (fr : Int32) (fb : Int64) (unf : Int32) (unp : Int32) (ub : Int64) (h0 : Heap) (n0 : Nat) (Z0 : n0 ≤ h0.size) (F_mCapacity_a1 : Fld Z h0 a1 "com/example/leafcutter/leafcutter/LeaseRoom" "mCapacity" "I" (.int cap)) (F_mFreeResults_a1 : Fld Z h0 a1 "com/example/leafcutter/leafcutter/LeaseRoom" "mFreeResults" "I" (.int fr)) (F_mFreeOutputBytes_a1 : Fld Z h0 a1 "com/example/leafcutter/leafcutter/LeaseRoom" "mFreeOutputBytes" "J" (.long fb)) (F_mUnfinished_a1 : Fld Z h0 a1 "com/example/leafcutter/leafcutter/LeaseRoom" "mUnfinished" "I" (.int unf)) (F_mUnposted_a1 : Fld Z h0 a1 "com/example/leafcutter/leafcutter/LeaseRoom" "mUnposted" "I" (.int unp)) (F_mUnpostedBytes_a1 : Fld Z h0 a1 "com/example/leafcutter/leafcutter/LeaseRoom" "mUnpostedBytes" "J" (.long ub)) :
    MetFree l (⟨"com/example/leafcutter/leafcutter/LeaseRoom", "room", "()I"⟩ : MethodName) (head1 (Jvm.Cond.code (⟨"com/example/leafcutter/leafcutter/LeaseRoom", "room", "()I"⟩ : MethodName) prog_27_method_2_code 3 (some .int) :: ws) ({ frames := 1, cells := 0, slots := 0, locals := 13 } : Room)) (fun a U => a = #[(.ref a1)] ∧ Z.Warmed39 U.vm ∧ U.heap = h0) (fun _ _ _ _ _ => True) (fun _ U o U' => ∃ v L, o = .returned v ∧ own_Q5 Z a1 cap fr fb unf unp ub h0 n0 v U'.heap L ∧ FrameEnd U o U' L ({ frames := 1, cells := 0, slots := 0, locals := 13 } : Room).cells ({ frames := 1, cells := 0, slots := 0, locals := 13 } : Room).slots) := by
  refine MetFree.of_bodySF (plainFor_of_name own_pn5) hisR ?_
  intro p e s m args below meth c s₁ Bd hml0 hP hK
  obtain ⟨rfl, hZ, hh⟩ := hP
  have hx := Bd.exec
  have hby := Bd.bytes
  have hml : c.maxLocals = 3 := hml0
  have hown : s.vm.findClass "com/example/leafcutter/leafcutter/LeaseRoom" = some m.cls := findClass_of_methodNamed Bd.named
  have hnm := (name_of_methodNamed Bd.named Bd.method).1
  have X0 : Stand p l e ({ frames := 1, cells := 0, slots := 0, locals := 13 } : Room) s m #[(.ref a1)] below meth c s₁ [] 0 0 := Stand.of_body Bd
  have e0 : s₁.heap = h0 := by rw [← hh, Bd.state]; rfl
  have N0 := Fr.nil n0
  have pre0 : ∀ t, Steps p.tables e below (s₁.setTop (mkF m 0 #[.val (.ref a1), .unset, .unset] [])) t → Steps p.tables e below (s₁.setTop (entryFrame m #[(.ref a1)] 3)) t := fun t k => castTop (own_ef5 m a1) k
  obtain ⟨T1, X1, e1, st1⟩ := getF X0 hx hZ hown (host := "") (Or.inl (hw _ (List.mem_of_getElem? (i := 35) rfl))) Via.refl e0 F_mUnposted_a1 (g := (mkF m 1 #[.val (.ref a1), .unset, .unset] [(.ref a1)])) rfl rfl (hb hby own_d5_1)
  obtain ⟨T2, X2, e2, st2⟩ := getF X1 hx hZ hown (host := "") (Or.inl (hw _ (List.mem_of_getElem? (i := 14) rfl))) Via.refl e1 F_mFreeResults_a1 (g := (mkF m 5 #[.val (.ref a1), .unset, .unset] [(.ref a1), (.int unp)])) rfl rfl (hb hby own_d5_5)
  have pre3 : ∀ t, Steps p.tables e below (T2.setTop (mkF m 8 #[.val (.ref a1), .unset, .unset] [(.int fr), (.int unp)])) t → Steps p.tables e below (s₁.setTop (entryFrame m #[(.ref a1)] 3)) t := by
    intro t k
    refine pre0 _ ?_
    show Steps p.tables e below (s₁.setTop (mkF m 0 #[.val (.ref a1), .unset, .unset] [])) _
    refine XS.aloadN X0.here hx rfl (hb hby own_d5_0) rfl rfl ?_
    show Steps p.tables e below (s₁.setTop (mkF m 1 #[.val (.ref a1), .unset, .unset] [(.ref a1)])) _
    refine st1 _ ?_
    show Steps p.tables e below (T1.setTop (mkF m 4 #[.val (.ref a1), .unset, .unset] [(.int unp)])) _
    refine XS.aloadN X1.here hx rfl (hb hby own_d5_4) rfl rfl ?_
    show Steps p.tables e below (T1.setTop (mkF m 5 #[.val (.ref a1), .unset, .unset] [(.ref a1), (.int unp)])) _
    refine st2 _ ?_
    exact k
  by_cases hc8 : unp < fr
  · -- hc8 
    obtain ⟨T4, X4, e4, st4⟩ := getF X2 hx hZ hown (host := "") (Or.inl (hw _ (List.mem_of_getElem? (i := 37) rfl))) Via.refl e2 F_mUnpostedBytes_a1 (g := (mkF m 12 #[.val (.ref a1), .unset, .unset] [(.ref a1)])) rfl rfl (hb hby own_d5_12)
    obtain ⟨T5, X5, e5, st5⟩ := getF X4 hx hZ hown (host := "") (Or.inl (hw _ (List.mem_of_getElem? (i := 16) rfl))) Via.refl e4 F_mFreeOutputBytes_a1 (g := (mkF m 16 #[.val (.ref a1), .unset, .unset] [(.ref a1), (.long ub)])) rfl rfl (hb hby own_d5_16)
    have pre6 : ∀ t, Steps p.tables e below (T5.setTop (mkF m 20 #[.val (.ref a1), .unset, .unset] [(.int (lcmpW ub fb))])) t → Steps p.tables e below (s₁.setTop (entryFrame m #[(.ref a1)] 3)) t := by
      intro t k
      refine pre3 _ ?_
      show Steps p.tables e below (T2.setTop (mkF m 8 #[.val (.ref a1), .unset, .unset] [(.int fr), (.int unp)])) _
      refine XS.icmpNo X2.here hx rfl (hb hby own_d5_8) rfl (tlt hc8).2.1 ?_
      show Steps p.tables e below (T2.setTop (mkF m 11 #[.val (.ref a1), .unset, .unset] [])) _
      refine XS.aloadN X2.here hx rfl (hb hby own_d5_11) rfl rfl ?_
      show Steps p.tables e below (T2.setTop (mkF m 12 #[.val (.ref a1), .unset, .unset] [(.ref a1)])) _
      refine st4 _ ?_
      show Steps p.tables e below (T4.setTop (mkF m 15 #[.val (.ref a1), .unset, .unset] [(.long ub)])) _
      refine XS.aloadN X4.here hx rfl (hb hby own_d5_15) rfl rfl ?_
      show Steps p.tables e below (T4.setTop (mkF m 16 #[.val (.ref a1), .unset, .unset] [(.ref a1), (.long ub)])) _
      refine st5 _ ?_
      show Steps p.tables e below (T5.setTop (mkF m 19 #[.val (.ref a1), .unset, .unset] [(.long fb), (.long ub)])) _
      refine XS.lcmp X5.here hx rfl (hb hby own_d5_19) rfl ?_
      exact k
    by_cases hc20 : ub < fb
    · -- hc20 
      obtain ⟨T7, X7, e7, st7⟩ := getF X5 hx hZ hown (host := "") (Or.inl (hw _ (List.mem_of_getElem? (i := 23) rfl))) Via.refl e5 F_mUnfinished_a1 (g := (mkF m 34 #[.val (.ref a1), .val (.int (1 : Int32)), .unset] [(.ref a1)])) rfl rfl (hb hby own_d5_34)
      obtain ⟨T8, X8, e8, st8⟩ := getF X7 hx hZ hown (host := "") (Or.inl (hw _ (List.mem_of_getElem? (i := 12) rfl))) Via.refl e7 F_mCapacity_a1 (g := (mkF m 52 #[.val (.ref a1), .val (.int (1 : Int32)), .val (.int unf)] [(.ref a1), (.int (0 : Int32))])) rfl rfl (hb hby own_d5_52)
      obtain ⟨_, _, ⟨T9, L9, k9, n9⟩, -, X9, ⟨Lc9, hQ9, l9, y9, z9⟩, st9⟩ := Jvm.LawKit.callS X8 hx (y := (⟨"java/lang/Math", "max", "(II)I"⟩ : MethodName)) hown (mvT hZ (hw _ (List.mem_of_getElem? (i := 39) rfl))) (mvT hZ (hw _ (List.mem_of_getElem? (i := 40) rfl))) (mvT hZ (hw _ (List.mem_of_getElem? (i := 41) rfl))) (mvT hZ (hw _ (List.mem_of_getElem? (i := 42) rfl))) (by decide) (backOf (W := 0) (rm6 l Z a0 hw [] (0 : Int32) (cap - unf)  h0 n0 Z0 ) hZ (hw _ (List.mem_of_getElem? (i := 42) rfl)) (hw _ (List.mem_of_getElem? (i := 41) rfl)) (by decide) (by decide)) (g := (mkF m 57 #[.val (.ref a1), .val (.int (1 : Int32)), .val (.int unf)] [(.int (cap - unf)), (.int (0 : Int32))])) rfl (by rw [hml]; rfl) (argsL := [(.int (0 : Int32)), (.int (cap - unf))]) (rest := []) (lenOf own_pd0 rfl) rfl (by show 2 * 0 + _ ≤ _; exact Nat.le_of_eq rfl) (hb hby own_d5_57) (fun _ _ => ⟨rfl, e8, (by decide : 0 + 0 ≤ _), (by decide : 0 + 0 ≤ _)⟩)
      dsimp only [Pt.U, Pt.locs, Pt.cells, Pt.slots] at X9 l9 y9 z9 st9 hQ9
      subst l9 y9 z9
      obtain ⟨rfl, N9q, e9⟩ := hQ9
      have N9 := Fr.app N0 N9q
      have pre10 : ∀ t, Steps p.tables e below (T9.setTop (mkF m 60 #[.val (.ref a1), .val (.int (1 : Int32)), .val (.int unf)] [(.int (own_max (0 : Int32) (cap - unf)))])) t → Steps p.tables e below (s₁.setTop (entryFrame m #[(.ref a1)] 3)) t := by
        intro t k
        refine pre6 _ ?_
        show Steps p.tables e below (T5.setTop (mkF m 20 #[.val (.ref a1), .unset, .unset] [(.int (lcmpW ub fb))])) _
        refine XS.ifNo X5.here hx rfl (hb hby own_d5_20) rfl ((if0 _ _).trans (tlt ((lw_lt ub fb).mpr hc20)).2.1) ?_
        show Steps p.tables e below (T5.setTop (mkF m 23 #[.val (.ref a1), .unset, .unset] [])) _
        refine XS.iconst X5.here hx rfl (hb hby own_d5_23) ?_
        show Steps p.tables e below (T5.setTop (mkF m 24 #[.val (.ref a1), .unset, .unset] [(.int (1 : Int32))])) _
        refine XS.goto X5.here hx rfl (pc0 := 24) (pc' := 28) rfl (hb hby own_d5_24) (by decide) (by decide) ?_
        show Steps p.tables e below (T5.setTop (mkF m 28 #[.val (.ref a1), .unset, .unset] [(.int (1 : Int32))])) _
        refine XS.istoreN X5.here hx rfl (hb hby own_d5_28) rfl (l' := #[.val (.ref a1), .val (.int (1 : Int32)), .unset]) rfl ?_
        show Steps p.tables e below (T5.setTop (mkF m 29 #[.val (.ref a1), .val (.int (1 : Int32)), .unset] [])) _
        refine XS.iloadN X5.here hx rfl (hb hby own_d5_29) rfl ?_
        show Steps p.tables e below (T5.setTop (mkF m 30 #[.val (.ref a1), .val (.int (1 : Int32)), .unset] [(.int (1 : Int32))])) _
        refine XS.ifNo X5.here hx rfl (hb hby own_d5_30) rfl ((if0 _ _).trans (feq (by decide : ¬ ((1 : Int32) = (0 : Int32)))).1) ?_
        show Steps p.tables e below (T5.setTop (mkF m 33 #[.val (.ref a1), .val (.int (1 : Int32)), .unset] [])) _
        refine XS.aloadN X5.here hx rfl (hb hby own_d5_33) rfl rfl ?_
        show Steps p.tables e below (T5.setTop (mkF m 34 #[.val (.ref a1), .val (.int (1 : Int32)), .unset] [(.ref a1)])) _
        refine st7 _ ?_
        show Steps p.tables e below (T7.setTop (mkF m 37 #[.val (.ref a1), .val (.int (1 : Int32)), .unset] [(.int unf)])) _
        refine XS.goto X7.here hx rfl (pc0 := 37) (pc' := 49) rfl (hb hby own_d5_37) (by decide) (by decide) ?_
        show Steps p.tables e below (T7.setTop (mkF m 49 #[.val (.ref a1), .val (.int (1 : Int32)), .unset] [(.int unf)])) _
        refine XS.istoreN X7.here hx rfl (hb hby own_d5_49) rfl (l' := #[.val (.ref a1), .val (.int (1 : Int32)), .val (.int unf)]) rfl ?_
        show Steps p.tables e below (T7.setTop (mkF m 50 #[.val (.ref a1), .val (.int (1 : Int32)), .val (.int unf)] [])) _
        refine XS.iconst X7.here hx rfl (hb hby own_d5_50) ?_
        show Steps p.tables e below (T7.setTop (mkF m 51 #[.val (.ref a1), .val (.int (1 : Int32)), .val (.int unf)] [(.int (0 : Int32))])) _
        refine XS.aloadN X7.here hx rfl (hb hby own_d5_51) rfl rfl ?_
        show Steps p.tables e below (T7.setTop (mkF m 52 #[.val (.ref a1), .val (.int (1 : Int32)), .val (.int unf)] [(.ref a1), (.int (0 : Int32))])) _
        refine st8 _ ?_
        show Steps p.tables e below (T8.setTop (mkF m 55 #[.val (.ref a1), .val (.int (1 : Int32)), .val (.int unf)] [(.int cap), (.int (0 : Int32))])) _
        refine XS.iloadN X8.here hx rfl (hb hby own_d5_55) rfl ?_
        show Steps p.tables e below (T8.setTop (mkF m 56 #[.val (.ref a1), .val (.int (1 : Int32)), .val (.int unf)] [(.int unf), (.int cap), (.int (0 : Int32))])) _
        refine XS.isub X8.here hx rfl (hb hby own_d5_56) rfl ?_
        show Steps p.tables e below (T8.setTop (mkF m 57 #[.val (.ref a1), .val (.int (1 : Int32)), .val (.int unf)] [(.int (cap - unf)), (.int (0 : Int32))])) _
        refine st9 _ ?_
        exact k
      obtain ⟨fs, hr, hrun, hended, hW, hsame⟩ := X9.leave (v := some (.int (own_max (0 : Int32) (cap - unf)))) (fun h => by rw [Bd.returns] at h; cases h)
      refine ⟨_, _, pre10 _ ?_, hrun, hended, _, _, rfl, ?_, ⟨_, rfl⟩, hW, hsame.mono (by decide) (by decide)⟩
      · show Steps p.tables e below (T9.setTop (mkF m 60 #[.val (.ref a1), .val (.int (1 : Int32)), .val (.int unf)] [(.int (own_max (0 : Int32) (cap - unf)))])) _
        exact retI X9 hx Bd.returns (hb hby own_d5_60) hr
      · show own_Q5 Z a1 cap fr fb unf unp ub h0 n0 _ T9.heap _
        rw [e9]
        exact ⟨congrArg (fun z => some (Value.int z)) (show (own_max (0 : Int32) (cap - unf)) = (own_max (0 : Int32) (cap - (own_held unf unp fr ub fb))) from congrArg (fun z => own_max (0 : Int32) (cap - z)) (own_held1 hc8 hc20)), N9, rfl⟩
    · -- hc20 not
      obtain ⟨T11, X11, e11, st11⟩ := getF X5 hx hZ hown (host := "") (Or.inl (hw _ (List.mem_of_getElem? (i := 23) rfl))) Via.refl e5 F_mUnfinished_a1 (g := (mkF m 41 #[.val (.ref a1), .val (.int (0 : Int32)), .unset] [(.ref a1)])) rfl rfl (hb hby own_d5_41)
      obtain ⟨T12, X12, e12, st12⟩ := getF X11 hx hZ hown (host := "") (Or.inl (hw _ (List.mem_of_getElem? (i := 35) rfl))) Via.refl e11 F_mUnposted_a1 (g := (mkF m 45 #[.val (.ref a1), .val (.int (0 : Int32)), .unset] [(.ref a1), (.int unf)])) rfl rfl (hb hby own_d5_45)
      obtain ⟨T13, X13, e13, st13⟩ := getF X12 hx hZ hown (host := "") (Or.inl (hw _ (List.mem_of_getElem? (i := 12) rfl))) Via.refl e12 F_mCapacity_a1 (g := (mkF m 52 #[.val (.ref a1), .val (.int (0 : Int32)), .val (.int (unf + unp))] [(.ref a1), (.int (0 : Int32))])) rfl rfl (hb hby own_d5_52)
      obtain ⟨_, _, ⟨T14, L14, k14, n14⟩, -, X14, ⟨Lc14, hQ14, l14, y14, z14⟩, st14⟩ := Jvm.LawKit.callS X13 hx (y := (⟨"java/lang/Math", "max", "(II)I"⟩ : MethodName)) hown (mvT hZ (hw _ (List.mem_of_getElem? (i := 39) rfl))) (mvT hZ (hw _ (List.mem_of_getElem? (i := 40) rfl))) (mvT hZ (hw _ (List.mem_of_getElem? (i := 41) rfl))) (mvT hZ (hw _ (List.mem_of_getElem? (i := 42) rfl))) (by decide) (backOf (W := 0) (rm6 l Z a0 hw [] (0 : Int32) (cap - (unf + unp))  h0 n0 Z0 ) hZ (hw _ (List.mem_of_getElem? (i := 42) rfl)) (hw _ (List.mem_of_getElem? (i := 41) rfl)) (by decide) (by decide)) (g := (mkF m 57 #[.val (.ref a1), .val (.int (0 : Int32)), .val (.int (unf + unp))] [(.int (cap - (unf + unp))), (.int (0 : Int32))])) rfl (by rw [hml]; rfl) (argsL := [(.int (0 : Int32)), (.int (cap - (unf + unp)))]) (rest := []) (lenOf own_pd0 rfl) rfl (by show 2 * 0 + _ ≤ _; exact Nat.le_of_eq rfl) (hb hby own_d5_57) (fun _ _ => ⟨rfl, e13, (by decide : 0 + 0 ≤ _), (by decide : 0 + 0 ≤ _)⟩)
      dsimp only [Pt.U, Pt.locs, Pt.cells, Pt.slots] at X14 l14 y14 z14 st14 hQ14
      subst l14 y14 z14
      obtain ⟨rfl, N14q, e14⟩ := hQ14
      have N14 := Fr.app N0 N14q
      have pre15 : ∀ t, Steps p.tables e below (T14.setTop (mkF m 60 #[.val (.ref a1), .val (.int (0 : Int32)), .val (.int (unf + unp))] [(.int (own_max (0 : Int32) (cap - (unf + unp))))])) t → Steps p.tables e below (s₁.setTop (entryFrame m #[(.ref a1)] 3)) t := by
        intro t k
        refine pre6 _ ?_
        show Steps p.tables e below (T5.setTop (mkF m 20 #[.val (.ref a1), .unset, .unset] [(.int (lcmpW ub fb))])) _
        refine XS.ifYes X5.here hx rfl (pc0 := 20) (pc' := 27) rfl (hb hby own_d5_20) rfl ((if0 _ _).trans (flt (fun q => hc20 ((lw_lt ub fb).mp q))).2.1) (by decide) (by decide) ?_
        show Steps p.tables e below (T5.setTop (mkF m 27 #[.val (.ref a1), .unset, .unset] [])) _
        refine XS.iconst X5.here hx rfl (hb hby own_d5_27) ?_
        show Steps p.tables e below (T5.setTop (mkF m 28 #[.val (.ref a1), .unset, .unset] [(.int (0 : Int32))])) _
        refine XS.istoreN X5.here hx rfl (hb hby own_d5_28) rfl (l' := #[.val (.ref a1), .val (.int (0 : Int32)), .unset]) rfl ?_
        show Steps p.tables e below (T5.setTop (mkF m 29 #[.val (.ref a1), .val (.int (0 : Int32)), .unset] [])) _
        refine XS.iloadN X5.here hx rfl (hb hby own_d5_29) rfl ?_
        show Steps p.tables e below (T5.setTop (mkF m 30 #[.val (.ref a1), .val (.int (0 : Int32)), .unset] [(.int (0 : Int32))])) _
        refine XS.ifYes X5.here hx rfl (pc0 := 30) (pc' := 40) rfl (hb hby own_d5_30) rfl ((if0 _ _).trans (teq (by decide : ((0 : Int32) = (0 : Int32)))).1) (by decide) (by decide) ?_
        show Steps p.tables e below (T5.setTop (mkF m 40 #[.val (.ref a1), .val (.int (0 : Int32)), .unset] [])) _
        refine XS.aloadN X5.here hx rfl (hb hby own_d5_40) rfl rfl ?_
        show Steps p.tables e below (T5.setTop (mkF m 41 #[.val (.ref a1), .val (.int (0 : Int32)), .unset] [(.ref a1)])) _
        refine st11 _ ?_
        show Steps p.tables e below (T11.setTop (mkF m 44 #[.val (.ref a1), .val (.int (0 : Int32)), .unset] [(.int unf)])) _
        refine XS.aloadN X11.here hx rfl (hb hby own_d5_44) rfl rfl ?_
        show Steps p.tables e below (T11.setTop (mkF m 45 #[.val (.ref a1), .val (.int (0 : Int32)), .unset] [(.ref a1), (.int unf)])) _
        refine st12 _ ?_
        show Steps p.tables e below (T12.setTop (mkF m 48 #[.val (.ref a1), .val (.int (0 : Int32)), .unset] [(.int unp), (.int unf)])) _
        refine XS.iadd X12.here hx rfl (hb hby own_d5_48) rfl ?_
        show Steps p.tables e below (T12.setTop (mkF m 49 #[.val (.ref a1), .val (.int (0 : Int32)), .unset] [(.int (unf + unp))])) _
        refine XS.istoreN X12.here hx rfl (hb hby own_d5_49) rfl (l' := #[.val (.ref a1), .val (.int (0 : Int32)), .val (.int (unf + unp))]) rfl ?_
        show Steps p.tables e below (T12.setTop (mkF m 50 #[.val (.ref a1), .val (.int (0 : Int32)), .val (.int (unf + unp))] [])) _
        refine XS.iconst X12.here hx rfl (hb hby own_d5_50) ?_
        show Steps p.tables e below (T12.setTop (mkF m 51 #[.val (.ref a1), .val (.int (0 : Int32)), .val (.int (unf + unp))] [(.int (0 : Int32))])) _
        refine XS.aloadN X12.here hx rfl (hb hby own_d5_51) rfl rfl ?_
        show Steps p.tables e below (T12.setTop (mkF m 52 #[.val (.ref a1), .val (.int (0 : Int32)), .val (.int (unf + unp))] [(.ref a1), (.int (0 : Int32))])) _
        refine st13 _ ?_
        show Steps p.tables e below (T13.setTop (mkF m 55 #[.val (.ref a1), .val (.int (0 : Int32)), .val (.int (unf + unp))] [(.int cap), (.int (0 : Int32))])) _
        refine XS.iloadN X13.here hx rfl (hb hby own_d5_55) rfl ?_
        show Steps p.tables e below (T13.setTop (mkF m 56 #[.val (.ref a1), .val (.int (0 : Int32)), .val (.int (unf + unp))] [(.int (unf + unp)), (.int cap), (.int (0 : Int32))])) _
        refine XS.isub X13.here hx rfl (hb hby own_d5_56) rfl ?_
        show Steps p.tables e below (T13.setTop (mkF m 57 #[.val (.ref a1), .val (.int (0 : Int32)), .val (.int (unf + unp))] [(.int (cap - (unf + unp))), (.int (0 : Int32))])) _
        refine st14 _ ?_
        exact k
      obtain ⟨fs, hr, hrun, hended, hW, hsame⟩ := X14.leave (v := some (.int (own_max (0 : Int32) (cap - (unf + unp))))) (fun h => by rw [Bd.returns] at h; cases h)
      refine ⟨_, _, pre15 _ ?_, hrun, hended, _, _, rfl, ?_, ⟨_, rfl⟩, hW, hsame.mono (by decide) (by decide)⟩
      · show Steps p.tables e below (T14.setTop (mkF m 60 #[.val (.ref a1), .val (.int (0 : Int32)), .val (.int (unf + unp))] [(.int (own_max (0 : Int32) (cap - (unf + unp))))])) _
        exact retI X14 hx Bd.returns (hb hby own_d5_60) hr
      · show own_Q5 Z a1 cap fr fb unf unp ub h0 n0 _ T14.heap _
        rw [e14]
        exact ⟨congrArg (fun z => some (Value.int z)) (show (own_max (0 : Int32) (cap - (unf + unp))) = (own_max (0 : Int32) (cap - (own_held unf unp fr ub fb))) from congrArg (fun z => own_max (0 : Int32) (cap - z)) (own_held2 hc20)), N14, rfl⟩
  · -- hc8 not
    obtain ⟨T16, X16, e16, st16⟩ := getF X2 hx hZ hown (host := "") (Or.inl (hw _ (List.mem_of_getElem? (i := 23) rfl))) Via.refl e2 F_mUnfinished_a1 (g := (mkF m 41 #[.val (.ref a1), .val (.int (0 : Int32)), .unset] [(.ref a1)])) rfl rfl (hb hby own_d5_41)
    obtain ⟨T17, X17, e17, st17⟩ := getF X16 hx hZ hown (host := "") (Or.inl (hw _ (List.mem_of_getElem? (i := 35) rfl))) Via.refl e16 F_mUnposted_a1 (g := (mkF m 45 #[.val (.ref a1), .val (.int (0 : Int32)), .unset] [(.ref a1), (.int unf)])) rfl rfl (hb hby own_d5_45)
    obtain ⟨T18, X18, e18, st18⟩ := getF X17 hx hZ hown (host := "") (Or.inl (hw _ (List.mem_of_getElem? (i := 12) rfl))) Via.refl e17 F_mCapacity_a1 (g := (mkF m 52 #[.val (.ref a1), .val (.int (0 : Int32)), .val (.int (unf + unp))] [(.ref a1), (.int (0 : Int32))])) rfl rfl (hb hby own_d5_52)
    obtain ⟨_, _, ⟨T19, L19, k19, n19⟩, -, X19, ⟨Lc19, hQ19, l19, y19, z19⟩, st19⟩ := Jvm.LawKit.callS X18 hx (y := (⟨"java/lang/Math", "max", "(II)I"⟩ : MethodName)) hown (mvT hZ (hw _ (List.mem_of_getElem? (i := 39) rfl))) (mvT hZ (hw _ (List.mem_of_getElem? (i := 40) rfl))) (mvT hZ (hw _ (List.mem_of_getElem? (i := 41) rfl))) (mvT hZ (hw _ (List.mem_of_getElem? (i := 42) rfl))) (by decide) (backOf (W := 0) (rm6 l Z a0 hw [] (0 : Int32) (cap - (unf + unp))  h0 n0 Z0 ) hZ (hw _ (List.mem_of_getElem? (i := 42) rfl)) (hw _ (List.mem_of_getElem? (i := 41) rfl)) (by decide) (by decide)) (g := (mkF m 57 #[.val (.ref a1), .val (.int (0 : Int32)), .val (.int (unf + unp))] [(.int (cap - (unf + unp))), (.int (0 : Int32))])) rfl (by rw [hml]; rfl) (argsL := [(.int (0 : Int32)), (.int (cap - (unf + unp)))]) (rest := []) (lenOf own_pd0 rfl) rfl (by show 2 * 0 + _ ≤ _; exact Nat.le_of_eq rfl) (hb hby own_d5_57) (fun _ _ => ⟨rfl, e18, (by decide : 0 + 0 ≤ _), (by decide : 0 + 0 ≤ _)⟩)
    dsimp only [Pt.U, Pt.locs, Pt.cells, Pt.slots] at X19 l19 y19 z19 st19 hQ19
    subst l19 y19 z19
    obtain ⟨rfl, N19q, e19⟩ := hQ19
    have N19 := Fr.app N0 N19q
    have pre20 : ∀ t, Steps p.tables e below (T19.setTop (mkF m 60 #[.val (.ref a1), .val (.int (0 : Int32)), .val (.int (unf + unp))] [(.int (own_max (0 : Int32) (cap - (unf + unp))))])) t → Steps p.tables e below (s₁.setTop (entryFrame m #[(.ref a1)] 3)) t := by
      intro t k
      refine pre3 _ ?_
      show Steps p.tables e below (T2.setTop (mkF m 8 #[.val (.ref a1), .unset, .unset] [(.int fr), (.int unp)])) _
      refine XS.icmpYes X2.here hx rfl (pc0 := 8) (pc' := 27) rfl (hb hby own_d5_8) rfl (flt hc8).2.1 (by decide) (by decide) ?_
      show Steps p.tables e below (T2.setTop (mkF m 27 #[.val (.ref a1), .unset, .unset] [])) _
      refine XS.iconst X2.here hx rfl (hb hby own_d5_27) ?_
      show Steps p.tables e below (T2.setTop (mkF m 28 #[.val (.ref a1), .unset, .unset] [(.int (0 : Int32))])) _
      refine XS.istoreN X2.here hx rfl (hb hby own_d5_28) rfl (l' := #[.val (.ref a1), .val (.int (0 : Int32)), .unset]) rfl ?_
      show Steps p.tables e below (T2.setTop (mkF m 29 #[.val (.ref a1), .val (.int (0 : Int32)), .unset] [])) _
      refine XS.iloadN X2.here hx rfl (hb hby own_d5_29) rfl ?_
      show Steps p.tables e below (T2.setTop (mkF m 30 #[.val (.ref a1), .val (.int (0 : Int32)), .unset] [(.int (0 : Int32))])) _
      refine XS.ifYes X2.here hx rfl (pc0 := 30) (pc' := 40) rfl (hb hby own_d5_30) rfl ((if0 _ _).trans (teq (by decide : ((0 : Int32) = (0 : Int32)))).1) (by decide) (by decide) ?_
      show Steps p.tables e below (T2.setTop (mkF m 40 #[.val (.ref a1), .val (.int (0 : Int32)), .unset] [])) _
      refine XS.aloadN X2.here hx rfl (hb hby own_d5_40) rfl rfl ?_
      show Steps p.tables e below (T2.setTop (mkF m 41 #[.val (.ref a1), .val (.int (0 : Int32)), .unset] [(.ref a1)])) _
      refine st16 _ ?_
      show Steps p.tables e below (T16.setTop (mkF m 44 #[.val (.ref a1), .val (.int (0 : Int32)), .unset] [(.int unf)])) _
      refine XS.aloadN X16.here hx rfl (hb hby own_d5_44) rfl rfl ?_
      show Steps p.tables e below (T16.setTop (mkF m 45 #[.val (.ref a1), .val (.int (0 : Int32)), .unset] [(.ref a1), (.int unf)])) _
      refine st17 _ ?_
      show Steps p.tables e below (T17.setTop (mkF m 48 #[.val (.ref a1), .val (.int (0 : Int32)), .unset] [(.int unp), (.int unf)])) _
      refine XS.iadd X17.here hx rfl (hb hby own_d5_48) rfl ?_
      show Steps p.tables e below (T17.setTop (mkF m 49 #[.val (.ref a1), .val (.int (0 : Int32)), .unset] [(.int (unf + unp))])) _
      refine XS.istoreN X17.here hx rfl (hb hby own_d5_49) rfl (l' := #[.val (.ref a1), .val (.int (0 : Int32)), .val (.int (unf + unp))]) rfl ?_
      show Steps p.tables e below (T17.setTop (mkF m 50 #[.val (.ref a1), .val (.int (0 : Int32)), .val (.int (unf + unp))] [])) _
      refine XS.iconst X17.here hx rfl (hb hby own_d5_50) ?_
      show Steps p.tables e below (T17.setTop (mkF m 51 #[.val (.ref a1), .val (.int (0 : Int32)), .val (.int (unf + unp))] [(.int (0 : Int32))])) _
      refine XS.aloadN X17.here hx rfl (hb hby own_d5_51) rfl rfl ?_
      show Steps p.tables e below (T17.setTop (mkF m 52 #[.val (.ref a1), .val (.int (0 : Int32)), .val (.int (unf + unp))] [(.ref a1), (.int (0 : Int32))])) _
      refine st18 _ ?_
      show Steps p.tables e below (T18.setTop (mkF m 55 #[.val (.ref a1), .val (.int (0 : Int32)), .val (.int (unf + unp))] [(.int cap), (.int (0 : Int32))])) _
      refine XS.iloadN X18.here hx rfl (hb hby own_d5_55) rfl ?_
      show Steps p.tables e below (T18.setTop (mkF m 56 #[.val (.ref a1), .val (.int (0 : Int32)), .val (.int (unf + unp))] [(.int (unf + unp)), (.int cap), (.int (0 : Int32))])) _
      refine XS.isub X18.here hx rfl (hb hby own_d5_56) rfl ?_
      show Steps p.tables e below (T18.setTop (mkF m 57 #[.val (.ref a1), .val (.int (0 : Int32)), .val (.int (unf + unp))] [(.int (cap - (unf + unp))), (.int (0 : Int32))])) _
      refine st19 _ ?_
      exact k
    obtain ⟨fs, hr, hrun, hended, hW, hsame⟩ := X19.leave (v := some (.int (own_max (0 : Int32) (cap - (unf + unp))))) (fun h => by rw [Bd.returns] at h; cases h)
    refine ⟨_, _, pre20 _ ?_, hrun, hended, _, _, rfl, ?_, ⟨_, rfl⟩, hW, hsame.mono (by decide) (by decide)⟩
    · show Steps p.tables e below (T19.setTop (mkF m 60 #[.val (.ref a1), .val (.int (0 : Int32)), .val (.int (unf + unp))] [(.int (own_max (0 : Int32) (cap - (unf + unp))))])) _
      exact retI X19 hx Bd.returns (hb hby own_d5_60) hr
    · show own_Q5 Z a1 cap fr fb unf unp ub h0 n0 _ T19.heap _
      rw [e19]
      exact ⟨congrArg (fun z => some (Value.int z)) (show (own_max (0 : Int32) (cap - (unf + unp))) = (own_max (0 : Int32) (cap - (own_held unf unp fr ub fb))) from congrArg (fun z => own_max (0 : Int32) (cap - z)) (own_held0 hc8)), N19, rfl⟩
theorem own_d4_0 : decode prog_27_method_5_code 0 = .ok (.aload_n 0, 1) := by decide +kernel
theorem own_d4_1 : decode prog_27_method_5_code 1 = .ok (.invokevirtual 35, 3) := by decide +kernel
theorem own_d4_4 : decode prog_27_method_5_code 4 = .ok (.ifCond .ne 7, 3) := by decide +kernel
theorem own_d4_7 : decode prog_27_method_5_code 7 = .ok (.iconst 1, 1) := by decide +kernel
theorem own_d4_8 : decode prog_27_method_5_code 8 = .ok (.goto 4, 3) := by decide +kernel
theorem own_d4_11 : decode prog_27_method_5_code 11 = .ok (.iconst 0, 1) := by decide +kernel
theorem own_d4_12 : decode prog_27_method_5_code 12 = .ok (.istore_n 3, 1) := by decide +kernel
theorem own_d4_13 : decode prog_27_method_5_code 13 = .ok (.aload_n 0, 1) := by decide +kernel
theorem own_d4_14 : decode prog_27_method_5_code 14 = .ok (.dup, 1) := by decide +kernel
theorem own_d4_15 : decode prog_27_method_5_code 15 = .ok (.getfield 26, 3) := by decide +kernel
theorem own_d4_18 : decode prog_27_method_5_code 18 = .ok (.iconst 1, 1) := by decide +kernel
theorem own_d4_19 : decode prog_27_method_5_code 19 = .ok (.isub, 1) := by decide +kernel
theorem own_d4_20 : decode prog_27_method_5_code 20 = .ok (.putfield 26, 3) := by decide +kernel
theorem own_d4_23 : decode prog_27_method_5_code 23 = .ok (.aload_n 0, 1) := by decide +kernel
theorem own_d4_24 : decode prog_27_method_5_code 24 = .ok (.dup, 1) := by decide +kernel
theorem own_d4_25 : decode prog_27_method_5_code 25 = .ok (.getfield 20, 3) := by decide +kernel
theorem own_d4_28 : decode prog_27_method_5_code 28 = .ok (.iconst 1, 1) := by decide +kernel
theorem own_d4_29 : decode prog_27_method_5_code 29 = .ok (.iadd, 1) := by decide +kernel
theorem own_d4_30 : decode prog_27_method_5_code 30 = .ok (.putfield 20, 3) := by decide +kernel
theorem own_d4_33 : decode prog_27_method_5_code 33 = .ok (.aload_n 0, 1) := by decide +kernel
theorem own_d4_34 : decode prog_27_method_5_code 34 = .ok (.dup, 1) := by decide +kernel
theorem own_d4_35 : decode prog_27_method_5_code 35 = .ok (.getfield 23, 3) := by decide +kernel
theorem own_d4_38 : decode prog_27_method_5_code 38 = .ok (.lload_n 1, 1) := by decide +kernel
theorem own_d4_39 : decode prog_27_method_5_code 39 = .ok (.ladd, 1) := by decide +kernel
theorem own_d4_40 : decode prog_27_method_5_code 40 = .ok (.putfield 23, 3) := by decide +kernel
theorem own_d4_43 : decode prog_27_method_5_code 43 = .ok (.iload_n 3, 1) := by decide +kernel
theorem own_d4_44 : decode prog_27_method_5_code 44 = .ok (.ifCond .eq 14, 3) := by decide +kernel
theorem own_d4_47 : decode prog_27_method_5_code 47 = .ok (.aload_n 0, 1) := by decide +kernel
theorem own_d4_48 : decode prog_27_method_5_code 48 = .ok (.invokevirtual 35, 3) := by decide +kernel
theorem own_d4_51 : decode prog_27_method_5_code 51 = .ok (.ifCond .le 7, 3) := by decide +kernel
theorem own_d4_54 : decode prog_27_method_5_code 54 = .ok (.iconst 1, 1) := by decide +kernel
theorem own_d4_55 : decode prog_27_method_5_code 55 = .ok (.goto 4, 3) := by decide +kernel
theorem own_d4_58 : decode prog_27_method_5_code 58 = .ok (.iconst 0, 1) := by decide +kernel
theorem own_d4_59 : decode prog_27_method_5_code 59 = .ok (.ireturn, 1) := by decide +kernel
theorem own_ef4 (m : MethodId) (x0 : Addr) (x1 : Int64) : entryFrame m #[(.ref x0), (.long x1)] 4 = mkF m 0 #[.val (.ref x0), .val (.long x1), .second, .unset] [] := by first | (simp [entryFrame, mkF, argsToLocals, Value.category]; done) | rfl
def own_Q4 (Z : State) (a1 : Addr) (q2 : Int64) (cap : Int32) (fr : Int32) (fb : Int64) (unf : Int32) (unp : Int32) (ub : Int64) (h0 : Heap) (n0 : Nat) (v : Option Value) (h : Heap) (L : List Loc) : Prop := ∃ z : Int32, v = some (.int z) ∧ True ∧ Fr n0 L ∧ Keep h0 h [a1] ∧ Exa Z h a1 "com/example/leafcutter/leafcutter/LeaseRoom" ∧ Fld Z h a1 "com/example/leafcutter/leafcutter/LeaseRoom" "mCapacity" "I" (.int cap) ∧ Fld Z h a1 "com/example/leafcutter/leafcutter/LeaseRoom" "mFreeResults" "I" (.int fr) ∧ Fld Z h a1 "com/example/leafcutter/leafcutter/LeaseRoom" "mFreeOutputBytes" "J" (.long fb) ∧ Fld Z h a1 "com/example/leafcutter/leafcutter/LeaseRoom" "mUnfinished" "I" (.int (unf - (1 : Int32))) ∧ Fld Z h a1 "com/example/leafcutter/leafcutter/LeaseRoom" "mUnposted" "I" (.int (unp + (1 : Int32))) ∧ Fld Z h a1 "com/example/leafcutter/leafcutter/LeaseRoom" "mUnpostedBytes" "J" (.long (ub + q2))
set_option maxRecDepth 65536 in
set_option maxHeartbeats 40000000 in
theorem rm4 (l : Launch) (Z : State) (a0 : Array Value) (hw : ∀ d ∈ tables_1, d.before a0 Z = true) (ws : List Jvm.Cond) (a1 : Addr) (q2 : Int64) (cap : Int32) (fr : Int32) (fb : Int64) (unf : Int32) (unp : Int32) (ub : Int64) (h0 : Heap) (n0 : Nat) (Z0 : n0 ≤ h0.size) (E_a1 : Exa Z h0 a1 "com/example/leafcutter/leafcutter/LeaseRoom") (F_mCapacity_a1 : Fld Z h0 a1 "com/example/leafcutter/leafcutter/LeaseRoom" "mCapacity" "I" (.int cap)) (F_mFreeResults_a1 : Fld Z h0 a1 "com/example/leafcutter/leafcutter/LeaseRoom" "mFreeResults" "I" (.int fr)) (F_mFreeOutputBytes_a1 : Fld Z h0 a1 "com/example/leafcutter/leafcutter/LeaseRoom" "mFreeOutputBytes" "J" (.long fb)) (F_mUnfinished_a1 : Fld Z h0 a1 "com/example/leafcutter/leafcutter/LeaseRoom" "mUnfinished" "I" (.int unf)) (F_mUnposted_a1 : Fld Z h0 a1 "com/example/leafcutter/leafcutter/LeaseRoom" "mUnposted" "I" (.int unp)) (F_mUnpostedBytes_a1 : Fld Z h0 a1 "com/example/leafcutter/leafcutter/LeaseRoom" "mUnpostedBytes" "J" (.long ub)) (g_a1 : n0 ≤ a1) :
    MetFree l (⟨"com/example/leafcutter/leafcutter/LeaseRoom", "finish", "(J)Z"⟩ : MethodName) (head1 (Jvm.Cond.code (⟨"com/example/leafcutter/leafcutter/LeaseRoom", "finish", "(J)Z"⟩ : MethodName) prog_27_method_5_code 4 (some .boolean) :: ws) ({ frames := 2, cells := 0, slots := 0, locals := 27 } : Room)) (fun a U => a = #[(.ref a1), (.long q2)] ∧ Z.Warmed39 U.vm ∧ U.heap = h0) (fun _ _ _ _ _ => True) (fun _ U o U' => ∃ v L, o = .returned v ∧ own_Q4 Z a1 q2 cap fr fb unf unp ub h0 n0 v U'.heap L ∧ FrameEnd U o U' L ({ frames := 2, cells := 0, slots := 0, locals := 27 } : Room).cells ({ frames := 2, cells := 0, slots := 0, locals := 27 } : Room).slots) := by
  refine MetFree.of_bodySF (plainFor_of_name own_pn4) hisR ?_
  intro p e s m args below meth c s₁ Bd hml0 hP hK
  obtain ⟨rfl, hZ, hh⟩ := hP
  have hx := Bd.exec
  have hby := Bd.bytes
  have hml : c.maxLocals = 4 := hml0
  have hown : s.vm.findClass "com/example/leafcutter/leafcutter/LeaseRoom" = some m.cls := findClass_of_methodNamed Bd.named
  have hnm := (name_of_methodNamed Bd.named Bd.method).1
  have X0 : Stand p l e ({ frames := 2, cells := 0, slots := 0, locals := 27 } : Room) s m #[(.ref a1), (.long q2)] below meth c s₁ [] 0 0 := Stand.of_body Bd
  have e0 : s₁.heap = h0 := by rw [← hh, Bd.state]; rfl
  have N0 := Fr.nil n0
  have pre0 : ∀ t, Steps p.tables e below (s₁.setTop (mkF m 0 #[.val (.ref a1), .val (.long q2), .second, .unset] [])) t → Steps p.tables e below (s₁.setTop (entryFrame m #[(.ref a1), (.long q2)] 4)) t := fun t k => castTop (own_ef4 m a1 q2) k
  have K0 := Keep.refl h0 [a1]
  obtain ⟨cq1, kq1, q1a, q1b, q1c⟩ := isOf hZ e0 E_a1
  obtain ⟨_, _, ⟨T1, L1, k1, n1⟩, -, X1, ⟨Lc1, hQ1, l1, y1, z1⟩, st1⟩ := X0.virtualBack hx (y := (⟨"com/example/leafcutter/leafcutter/LeaseRoom", "room", "()I"⟩ : MethodName)) (z := (⟨"com/example/leafcutter/leafcutter/LeaseRoom", "room", "()I"⟩ : MethodName)) hown (mvT hZ (hw _ (List.mem_of_getElem? (i := 30) rfl))) (mvT hZ (hw _ (List.mem_of_getElem? (i := 31) rfl))) (notFace_of_selects (args := #[]) (mvT hZ (hw _ (List.mem_of_getElem? (i := 33) rfl)))) (mvT hZ (hw _ (List.mem_of_getElem? (i := 33) rfl))) (mvT hZ (hw _ (List.mem_of_getElem? (i := 32) rfl))) (by decide) (backOf (W := 0) (rm5 l Z a0 hw [] a1 cap fr fb unf unp ub h0 n0 Z0 F_mCapacity_a1 F_mFreeResults_a1 F_mFreeOutputBytes_a1 F_mUnfinished_a1 F_mUnposted_a1 F_mUnpostedBytes_a1) hZ (hw _ (List.mem_of_getElem? (i := 34) rfl)) (hw _ (List.mem_of_getElem? (i := 5) rfl)) (by decide) (by decide)) q1a q1c (g := (mkF m 1 #[.val (.ref a1), .val (.long q2), .second, .unset] [(.ref a1)])) rfl (by rw [hml]; rfl) (Steps.refl _) (argsL := []) (rest := []) (lenOf own_pd1 rfl) rfl (by show 2 * 0 + _ ≤ _; exact Nat.le_of_eq rfl) (hb hby own_d4_1) (fun _ _ => ⟨rfl, e0, (by decide : 0 + 0 ≤ _), (by decide : 0 + 0 ≤ _)⟩)
  dsimp only [Pt.U, Pt.locs, Pt.cells, Pt.slots] at X1 l1 y1 z1 st1 hQ1
  subst l1 y1 z1
  obtain ⟨rfl, N1q, e1⟩ := hQ1
  have N1 := Fr.app N0 N1q
  have pre2 : ∀ t, Steps p.tables e below (T1.setTop (mkF m 4 #[.val (.ref a1), .val (.long q2), .second, .unset] [(.int (own_max (0 : Int32) (cap - (own_held unf unp fr ub fb))))])) t → Steps p.tables e below (s₁.setTop (entryFrame m #[(.ref a1), (.long q2)] 4)) t := by
    intro t k
    refine pre0 _ ?_
    show Steps p.tables e below (s₁.setTop (mkF m 0 #[.val (.ref a1), .val (.long q2), .second, .unset] [])) _
    refine XS.aloadN X0.here hx rfl (hb hby own_d4_0) rfl rfl ?_
    show Steps p.tables e below (s₁.setTop (mkF m 1 #[.val (.ref a1), .val (.long q2), .second, .unset] [(.ref a1)])) _
    refine st1.trans ?_
    exact k
  obtain ⟨w3, hw3, pre3⟩ : ∃ (w3 : Int32), (True) ∧ ∀ t, Steps p.tables e below (T1.setTop (mkF m 12 #[.val (.ref a1), .val (.long q2), .second, .unset] [(.int w3)])) t → Steps p.tables e below (s₁.setTop (entryFrame m #[(.ref a1), (.long q2)] 4)) t := by
    by_cases hc4 : (own_max (0 : Int32) (cap - (own_held unf unp fr ub fb))) = (0 : Int32)
    · -- hc4 
      refine ⟨(1 : Int32), by trivial, fun t k => ?_⟩
      refine pre2 _ ?_
      show Steps p.tables e below (T1.setTop (mkF m 4 #[.val (.ref a1), .val (.long q2), .second, .unset] [(.int (own_max (0 : Int32) (cap - (own_held unf unp fr ub fb))))])) _
      refine XS.ifNo X1.here hx rfl (hb hby own_d4_4) rfl ((if0 _ _).trans (teq hc4).2) ?_
      show Steps p.tables e below (T1.setTop (mkF m 7 #[.val (.ref a1), .val (.long q2), .second, .unset] [])) _
      refine XS.iconst X1.here hx rfl (hb hby own_d4_7) ?_
      show Steps p.tables e below (T1.setTop (mkF m 8 #[.val (.ref a1), .val (.long q2), .second, .unset] [(.int (1 : Int32))])) _
      refine XS.goto X1.here hx rfl (pc0 := 8) (pc' := 12) rfl (hb hby own_d4_8) (by decide) (by decide) ?_
      exact k
    · -- hc4 not
      refine ⟨(0 : Int32), by trivial, fun t k => ?_⟩
      refine pre2 _ ?_
      show Steps p.tables e below (T1.setTop (mkF m 4 #[.val (.ref a1), .val (.long q2), .second, .unset] [(.int (own_max (0 : Int32) (cap - (own_held unf unp fr ub fb))))])) _
      refine XS.ifYes X1.here hx rfl (pc0 := 4) (pc' := 11) rfl (hb hby own_d4_4) rfl ((if0 _ _).trans (feq hc4).2) (by decide) (by decide) ?_
      show Steps p.tables e below (T1.setTop (mkF m 11 #[.val (.ref a1), .val (.long q2), .second, .unset] [])) _
      refine XS.iconst X1.here hx rfl (hb hby own_d4_11) ?_
      exact k
  obtain ⟨T4, X4, e4, st4⟩ := getF X1 hx hZ hown (host := "") (Or.inl (hw _ (List.mem_of_getElem? (i := 23) rfl))) Via.refl e1 F_mUnfinished_a1 (g := (mkF m 15 #[.val (.ref a1), .val (.long q2), .second, .val (.int w3)] [(.ref a1), (.ref a1)])) rfl rfl (hb hby own_d4_15)
  obtain ⟨T5, h5, X5, e5, W5, st5⟩ := putF X4 hx hZ hown (host := "") (Or.inl (hw _ (List.mem_of_getElem? (i := 23) rfl))) Via.refl e4 F_mUnfinished_a1 E_a1 (Or.inl (hw _ (List.mem_of_getElem? (i := 24) rfl))) (hw _ (List.mem_of_getElem? (i := 4) rfl)) (ty := .int) (by decide) rfl rfl (g := (mkF m 20 #[.val (.ref a1), .val (.long q2), .second, .val (.int w3)] [(.int (unf - (1 : Int32))), (.ref a1)])) rfl rfl (hb hby own_d4_20)
  have E_a1 := E_a1.wr W5
  have F_mCapacity_a1 := F_mCapacity_a1.other W5 (Or.inr (slot_ne (Or.inr (hw _ (List.mem_of_getElem? (i := 13) rfl))) (Or.inl (hw _ (List.mem_of_getElem? (i := 24) rfl))) (by decide) (t := .int) (t' := .int) (by decide) (by decide)))
  have F_mFreeResults_a1 := F_mFreeResults_a1.other W5 (Or.inr (slot_ne (Or.inr (hw _ (List.mem_of_getElem? (i := 15) rfl))) (Or.inl (hw _ (List.mem_of_getElem? (i := 24) rfl))) (by decide) (t := .int) (t' := .int) (by decide) (by decide)))
  have F_mFreeOutputBytes_a1 := F_mFreeOutputBytes_a1.other W5 (Or.inr (slot_ne (Or.inr (hw _ (List.mem_of_getElem? (i := 17) rfl))) (Or.inl (hw _ (List.mem_of_getElem? (i := 24) rfl))) (by decide) (t := .long) (t' := .int) (by decide) (by decide)))
  have F_mUnposted_a1 := F_mUnposted_a1.other W5 (Or.inr (slot_ne (Or.inl (hw _ (List.mem_of_getElem? (i := 36) rfl))) (Or.inl (hw _ (List.mem_of_getElem? (i := 24) rfl))) (by decide) (t := .int) (t' := .int) (by decide) (by decide)))
  have F_mUnpostedBytes_a1 := F_mUnpostedBytes_a1.other W5 (Or.inr (slot_ne (Or.inl (hw _ (List.mem_of_getElem? (i := 38) rfl))) (Or.inl (hw _ (List.mem_of_getElem? (i := 24) rfl))) (by decide) (t := .long) (t' := .int) (by decide) (by decide)))
  have Z5 : n0 ≤ h5.size := Nat.le_trans Z0 (Keep.of_wr W5).1
  have K5 := K0.wr W5 (Or.inl (List.mem_of_getElem? (i := 0) rfl))
  have N5 := Fr.snoc X5 N1 g_a1
  have F_mUnfinished_a1 : Fld Z h5 a1 "com/example/leafcutter/leafcutter/LeaseRoom" "mUnfinished" "I" (.int (unf - (1 : Int32))) := F_mUnfinished_a1.same W5
  obtain ⟨T6, X6, e6, st6⟩ := getF X5 hx hZ hown (host := "") (Or.inl (hw _ (List.mem_of_getElem? (i := 35) rfl))) Via.refl e5 F_mUnposted_a1 (g := (mkF m 25 #[.val (.ref a1), .val (.long q2), .second, .val (.int w3)] [(.ref a1), (.ref a1)])) rfl rfl (hb hby own_d4_25)
  obtain ⟨T7, h7, X7, e7, W7, st7⟩ := putF X6 hx hZ hown (host := "") (Or.inl (hw _ (List.mem_of_getElem? (i := 35) rfl))) Via.refl e6 F_mUnposted_a1 E_a1 (Or.inl (hw _ (List.mem_of_getElem? (i := 36) rfl))) (hw _ (List.mem_of_getElem? (i := 4) rfl)) (ty := .int) (by decide) rfl rfl (g := (mkF m 30 #[.val (.ref a1), .val (.long q2), .second, .val (.int w3)] [(.int (unp + (1 : Int32))), (.ref a1)])) rfl rfl (hb hby own_d4_30)
  have E_a1 := E_a1.wr W7
  have F_mCapacity_a1 := F_mCapacity_a1.other W7 (Or.inr (slot_ne (Or.inr (hw _ (List.mem_of_getElem? (i := 13) rfl))) (Or.inl (hw _ (List.mem_of_getElem? (i := 36) rfl))) (by decide) (t := .int) (t' := .int) (by decide) (by decide)))
  have F_mFreeResults_a1 := F_mFreeResults_a1.other W7 (Or.inr (slot_ne (Or.inr (hw _ (List.mem_of_getElem? (i := 15) rfl))) (Or.inl (hw _ (List.mem_of_getElem? (i := 36) rfl))) (by decide) (t := .int) (t' := .int) (by decide) (by decide)))
  have F_mFreeOutputBytes_a1 := F_mFreeOutputBytes_a1.other W7 (Or.inr (slot_ne (Or.inr (hw _ (List.mem_of_getElem? (i := 17) rfl))) (Or.inl (hw _ (List.mem_of_getElem? (i := 36) rfl))) (by decide) (t := .long) (t' := .int) (by decide) (by decide)))
  have F_mUnfinished_a1 := F_mUnfinished_a1.other W7 (Or.inr (slot_ne (Or.inl (hw _ (List.mem_of_getElem? (i := 24) rfl))) (Or.inl (hw _ (List.mem_of_getElem? (i := 36) rfl))) (by decide) (t := .int) (t' := .int) (by decide) (by decide)))
  have F_mUnpostedBytes_a1 := F_mUnpostedBytes_a1.other W7 (Or.inr (slot_ne (Or.inl (hw _ (List.mem_of_getElem? (i := 38) rfl))) (Or.inl (hw _ (List.mem_of_getElem? (i := 36) rfl))) (by decide) (t := .long) (t' := .int) (by decide) (by decide)))
  have Z7 : n0 ≤ h7.size := Nat.le_trans Z5 (Keep.of_wr W7).1
  have K7 := K5.wr W7 (Or.inl (List.mem_of_getElem? (i := 0) rfl))
  have N7 := Fr.snoc X7 N5 g_a1
  have F_mUnposted_a1 : Fld Z h7 a1 "com/example/leafcutter/leafcutter/LeaseRoom" "mUnposted" "I" (.int (unp + (1 : Int32))) := F_mUnposted_a1.same W7
  obtain ⟨T8, X8, e8, st8⟩ := getF X7 hx hZ hown (host := "") (Or.inl (hw _ (List.mem_of_getElem? (i := 37) rfl))) Via.refl e7 F_mUnpostedBytes_a1 (g := (mkF m 35 #[.val (.ref a1), .val (.long q2), .second, .val (.int w3)] [(.ref a1), (.ref a1)])) rfl rfl (hb hby own_d4_35)
  obtain ⟨T9, h9, X9, e9, W9, st9⟩ := putF X8 hx hZ hown (host := "") (Or.inl (hw _ (List.mem_of_getElem? (i := 37) rfl))) Via.refl e8 F_mUnpostedBytes_a1 E_a1 (Or.inl (hw _ (List.mem_of_getElem? (i := 38) rfl))) (hw _ (List.mem_of_getElem? (i := 4) rfl)) (ty := .long) (by decide) rfl rfl (g := (mkF m 40 #[.val (.ref a1), .val (.long q2), .second, .val (.int w3)] [(.long (ub + q2)), (.ref a1)])) rfl rfl (hb hby own_d4_40)
  have E_a1 := E_a1.wr W9
  have F_mCapacity_a1 := F_mCapacity_a1.other W9 (Or.inr (slot_ne (Or.inr (hw _ (List.mem_of_getElem? (i := 13) rfl))) (Or.inl (hw _ (List.mem_of_getElem? (i := 38) rfl))) (by decide) (t := .int) (t' := .long) (by decide) (by decide)))
  have F_mFreeResults_a1 := F_mFreeResults_a1.other W9 (Or.inr (slot_ne (Or.inr (hw _ (List.mem_of_getElem? (i := 15) rfl))) (Or.inl (hw _ (List.mem_of_getElem? (i := 38) rfl))) (by decide) (t := .int) (t' := .long) (by decide) (by decide)))
  have F_mFreeOutputBytes_a1 := F_mFreeOutputBytes_a1.other W9 (Or.inr (slot_ne (Or.inr (hw _ (List.mem_of_getElem? (i := 17) rfl))) (Or.inl (hw _ (List.mem_of_getElem? (i := 38) rfl))) (by decide) (t := .long) (t' := .long) (by decide) (by decide)))
  have F_mUnfinished_a1 := F_mUnfinished_a1.other W9 (Or.inr (slot_ne (Or.inl (hw _ (List.mem_of_getElem? (i := 24) rfl))) (Or.inl (hw _ (List.mem_of_getElem? (i := 38) rfl))) (by decide) (t := .int) (t' := .long) (by decide) (by decide)))
  have F_mUnposted_a1 := F_mUnposted_a1.other W9 (Or.inr (slot_ne (Or.inl (hw _ (List.mem_of_getElem? (i := 36) rfl))) (Or.inl (hw _ (List.mem_of_getElem? (i := 38) rfl))) (by decide) (t := .int) (t' := .long) (by decide) (by decide)))
  have Z9 : n0 ≤ h9.size := Nat.le_trans Z7 (Keep.of_wr W9).1
  have K9 := K7.wr W9 (Or.inl (List.mem_of_getElem? (i := 0) rfl))
  have N9 := Fr.snoc X9 N7 g_a1
  have F_mUnpostedBytes_a1 : Fld Z h9 a1 "com/example/leafcutter/leafcutter/LeaseRoom" "mUnpostedBytes" "J" (.long (ub + q2)) := F_mUnpostedBytes_a1.same W9
  have pre10 : ∀ t, Steps p.tables e below (T9.setTop (mkF m 44 #[.val (.ref a1), .val (.long q2), .second, .val (.int w3)] [(.int w3)])) t → Steps p.tables e below (s₁.setTop (entryFrame m #[(.ref a1), (.long q2)] 4)) t := by
    intro t k
    refine pre3 _ ?_
    show Steps p.tables e below (T1.setTop (mkF m 12 #[.val (.ref a1), .val (.long q2), .second, .unset] [(.int w3)])) _
    refine XS.istoreN X1.here hx rfl (hb hby own_d4_12) rfl (l' := #[.val (.ref a1), .val (.long q2), .second, .val (.int w3)]) rfl ?_
    show Steps p.tables e below (T1.setTop (mkF m 13 #[.val (.ref a1), .val (.long q2), .second, .val (.int w3)] [])) _
    refine XS.aloadN X1.here hx rfl (hb hby own_d4_13) rfl rfl ?_
    show Steps p.tables e below (T1.setTop (mkF m 14 #[.val (.ref a1), .val (.long q2), .second, .val (.int w3)] [(.ref a1)])) _
    refine XS.dup X1.here hx rfl (hb hby own_d4_14) rfl rfl ?_
    show Steps p.tables e below (T1.setTop (mkF m 15 #[.val (.ref a1), .val (.long q2), .second, .val (.int w3)] [(.ref a1), (.ref a1)])) _
    refine st4 _ ?_
    show Steps p.tables e below (T4.setTop (mkF m 18 #[.val (.ref a1), .val (.long q2), .second, .val (.int w3)] [(.int unf), (.ref a1)])) _
    refine XS.iconst X4.here hx rfl (hb hby own_d4_18) ?_
    show Steps p.tables e below (T4.setTop (mkF m 19 #[.val (.ref a1), .val (.long q2), .second, .val (.int w3)] [(.int (1 : Int32)), (.int unf), (.ref a1)])) _
    refine XS.isub X4.here hx rfl (hb hby own_d4_19) rfl ?_
    show Steps p.tables e below (T4.setTop (mkF m 20 #[.val (.ref a1), .val (.long q2), .second, .val (.int w3)] [(.int (unf - (1 : Int32))), (.ref a1)])) _
    refine st5 _ ?_
    show Steps p.tables e below (T5.setTop (mkF m 23 #[.val (.ref a1), .val (.long q2), .second, .val (.int w3)] [])) _
    refine XS.aloadN X5.here hx rfl (hb hby own_d4_23) rfl rfl ?_
    show Steps p.tables e below (T5.setTop (mkF m 24 #[.val (.ref a1), .val (.long q2), .second, .val (.int w3)] [(.ref a1)])) _
    refine XS.dup X5.here hx rfl (hb hby own_d4_24) rfl rfl ?_
    show Steps p.tables e below (T5.setTop (mkF m 25 #[.val (.ref a1), .val (.long q2), .second, .val (.int w3)] [(.ref a1), (.ref a1)])) _
    refine st6 _ ?_
    show Steps p.tables e below (T6.setTop (mkF m 28 #[.val (.ref a1), .val (.long q2), .second, .val (.int w3)] [(.int unp), (.ref a1)])) _
    refine XS.iconst X6.here hx rfl (hb hby own_d4_28) ?_
    show Steps p.tables e below (T6.setTop (mkF m 29 #[.val (.ref a1), .val (.long q2), .second, .val (.int w3)] [(.int (1 : Int32)), (.int unp), (.ref a1)])) _
    refine XS.iadd X6.here hx rfl (hb hby own_d4_29) rfl ?_
    show Steps p.tables e below (T6.setTop (mkF m 30 #[.val (.ref a1), .val (.long q2), .second, .val (.int w3)] [(.int (unp + (1 : Int32))), (.ref a1)])) _
    refine st7 _ ?_
    show Steps p.tables e below (T7.setTop (mkF m 33 #[.val (.ref a1), .val (.long q2), .second, .val (.int w3)] [])) _
    refine XS.aloadN X7.here hx rfl (hb hby own_d4_33) rfl rfl ?_
    show Steps p.tables e below (T7.setTop (mkF m 34 #[.val (.ref a1), .val (.long q2), .second, .val (.int w3)] [(.ref a1)])) _
    refine XS.dup X7.here hx rfl (hb hby own_d4_34) rfl rfl ?_
    show Steps p.tables e below (T7.setTop (mkF m 35 #[.val (.ref a1), .val (.long q2), .second, .val (.int w3)] [(.ref a1), (.ref a1)])) _
    refine st8 _ ?_
    show Steps p.tables e below (T8.setTop (mkF m 38 #[.val (.ref a1), .val (.long q2), .second, .val (.int w3)] [(.long ub), (.ref a1)])) _
    refine XS.lloadN X8.here hx rfl (hb hby own_d4_38) rfl ?_
    show Steps p.tables e below (T8.setTop (mkF m 39 #[.val (.ref a1), .val (.long q2), .second, .val (.int w3)] [(.long q2), (.long ub), (.ref a1)])) _
    refine XS.ladd X8.here hx rfl (hb hby own_d4_39) rfl ?_
    show Steps p.tables e below (T8.setTop (mkF m 40 #[.val (.ref a1), .val (.long q2), .second, .val (.int w3)] [(.long (ub + q2)), (.ref a1)])) _
    refine st9 _ ?_
    show Steps p.tables e below (T9.setTop (mkF m 43 #[.val (.ref a1), .val (.long q2), .second, .val (.int w3)] [])) _
    refine XS.iloadN X9.here hx rfl (hb hby own_d4_43) rfl ?_
    exact k
  by_cases hc44 : w3 = (0 : Int32)
  · -- hc44 
    have pre11 : ∀ t, Steps p.tables e below (T9.setTop (mkF m 59 #[.val (.ref a1), .val (.long q2), .second, .val (.int w3)] [(.int (0 : Int32))])) t → Steps p.tables e below (s₁.setTop (entryFrame m #[(.ref a1), (.long q2)] 4)) t := by
      intro t k
      refine pre10 _ ?_
      show Steps p.tables e below (T9.setTop (mkF m 44 #[.val (.ref a1), .val (.long q2), .second, .val (.int w3)] [(.int w3)])) _
      refine XS.ifYes X9.here hx rfl (pc0 := 44) (pc' := 58) rfl (hb hby own_d4_44) rfl ((if0 _ _).trans (teq hc44).1) (by decide) (by decide) ?_
      show Steps p.tables e below (T9.setTop (mkF m 58 #[.val (.ref a1), .val (.long q2), .second, .val (.int w3)] [])) _
      refine XS.iconst X9.here hx rfl (hb hby own_d4_58) ?_
      exact k
    obtain ⟨fs, hr, hrun, hended, hW, hsame⟩ := X9.leave (v := some (.int (0 : Int32))) (fun h => by rw [Bd.returns] at h; cases h)
    refine ⟨_, _, pre11 _ ?_, hrun, hended, _, _, rfl, ?_, ⟨_, rfl⟩, hW, hsame.mono (by decide) (by decide)⟩
    · show Steps p.tables e below (T9.setTop (mkF m 59 #[.val (.ref a1), .val (.long q2), .second, .val (.int w3)] [(.int (0 : Int32))])) _
      exact retN X9 hx (t := .boolean) Bd.returns (by simp) (hb hby own_d4_59) hr
    · show own_Q4 Z a1 q2 cap fr fb unf unp ub h0 n0 _ T9.heap _
      rw [e9]
      exact ⟨(0 : Int32), rfl, trivial, N9, K9, E_a1, F_mCapacity_a1, F_mFreeResults_a1, F_mFreeOutputBytes_a1, F_mUnfinished_a1, F_mUnposted_a1, F_mUnpostedBytes_a1⟩
  · -- hc44 not
    obtain ⟨cq12, kq12, q12a, q12b, q12c⟩ := isOf hZ e9 E_a1
    obtain ⟨_, _, ⟨T12, L12, k12, n12⟩, -, X12, ⟨Lc12, hQ12, l12, y12, z12⟩, st12⟩ := X9.virtualBack hx (y := (⟨"com/example/leafcutter/leafcutter/LeaseRoom", "room", "()I"⟩ : MethodName)) (z := (⟨"com/example/leafcutter/leafcutter/LeaseRoom", "room", "()I"⟩ : MethodName)) hown (mvT hZ (hw _ (List.mem_of_getElem? (i := 30) rfl))) (mvT hZ (hw _ (List.mem_of_getElem? (i := 31) rfl))) (notFace_of_selects (args := #[]) (mvT hZ (hw _ (List.mem_of_getElem? (i := 33) rfl)))) (mvT hZ (hw _ (List.mem_of_getElem? (i := 33) rfl))) (mvT hZ (hw _ (List.mem_of_getElem? (i := 32) rfl))) (by decide) (backOf (W := 0) (rm5 l Z a0 hw [] a1 cap fr fb ((unf - (1 : Int32))) ((unp + (1 : Int32))) ((ub + q2)) h9 n0 Z9 F_mCapacity_a1 F_mFreeResults_a1 F_mFreeOutputBytes_a1 F_mUnfinished_a1 F_mUnposted_a1 F_mUnpostedBytes_a1) hZ (hw _ (List.mem_of_getElem? (i := 34) rfl)) (hw _ (List.mem_of_getElem? (i := 5) rfl)) (by decide) (by decide)) q12a q12c (g := (mkF m 48 #[.val (.ref a1), .val (.long q2), .second, .val (.int w3)] [(.ref a1)])) rfl (by rw [hml]; rfl) (Steps.refl _) (argsL := []) (rest := []) (lenOf own_pd1 rfl) rfl (by show 2 * 0 + _ ≤ _; exact Nat.le_of_eq rfl) (hb hby own_d4_48) (fun _ _ => ⟨rfl, e9, (by decide : 0 + 0 ≤ _), (by decide : 0 + 0 ≤ _)⟩)
    dsimp only [Pt.U, Pt.locs, Pt.cells, Pt.slots] at X12 l12 y12 z12 st12 hQ12
    subst l12 y12 z12
    obtain ⟨rfl, N12q, e12⟩ := hQ12
    have N12 := Fr.app N9 N12q
    have pre13 : ∀ t, Steps p.tables e below (T12.setTop (mkF m 51 #[.val (.ref a1), .val (.long q2), .second, .val (.int w3)] [(.int (own_max (0 : Int32) (cap - (own_held (unf - (1 : Int32)) (unp + (1 : Int32)) fr (ub + q2) fb))))])) t → Steps p.tables e below (s₁.setTop (entryFrame m #[(.ref a1), (.long q2)] 4)) t := by
      intro t k
      refine pre10 _ ?_
      show Steps p.tables e below (T9.setTop (mkF m 44 #[.val (.ref a1), .val (.long q2), .second, .val (.int w3)] [(.int w3)])) _
      refine XS.ifNo X9.here hx rfl (hb hby own_d4_44) rfl ((if0 _ _).trans (feq hc44).1) ?_
      show Steps p.tables e below (T9.setTop (mkF m 47 #[.val (.ref a1), .val (.long q2), .second, .val (.int w3)] [])) _
      refine XS.aloadN X9.here hx rfl (hb hby own_d4_47) rfl rfl ?_
      show Steps p.tables e below (T9.setTop (mkF m 48 #[.val (.ref a1), .val (.long q2), .second, .val (.int w3)] [(.ref a1)])) _
      refine st12.trans ?_
      exact k
    by_cases hc51 : (0 : Int32) < (own_max (0 : Int32) (cap - (own_held (unf - (1 : Int32)) (unp + (1 : Int32)) fr (ub + q2) fb)))
    · -- hc51 
      have pre14 : ∀ t, Steps p.tables e below (T12.setTop (mkF m 59 #[.val (.ref a1), .val (.long q2), .second, .val (.int w3)] [(.int (1 : Int32))])) t → Steps p.tables e below (s₁.setTop (entryFrame m #[(.ref a1), (.long q2)] 4)) t := by
        intro t k
        refine pre13 _ ?_
        show Steps p.tables e below (T12.setTop (mkF m 51 #[.val (.ref a1), .val (.long q2), .second, .val (.int w3)] [(.int (own_max (0 : Int32) (cap - (own_held (unf - (1 : Int32)) (unp + (1 : Int32)) fr (ub + q2) fb))))])) _
        refine XS.ifNo X12.here hx rfl (hb hby own_d4_51) rfl ((if0 _ _).trans (tlt hc51).2.2.2) ?_
        show Steps p.tables e below (T12.setTop (mkF m 54 #[.val (.ref a1), .val (.long q2), .second, .val (.int w3)] [])) _
        refine XS.iconst X12.here hx rfl (hb hby own_d4_54) ?_
        show Steps p.tables e below (T12.setTop (mkF m 55 #[.val (.ref a1), .val (.long q2), .second, .val (.int w3)] [(.int (1 : Int32))])) _
        refine XS.goto X12.here hx rfl (pc0 := 55) (pc' := 59) rfl (hb hby own_d4_55) (by decide) (by decide) ?_
        exact k
      obtain ⟨fs, hr, hrun, hended, hW, hsame⟩ := X12.leave (v := some (.int (1 : Int32))) (fun h => by rw [Bd.returns] at h; cases h)
      refine ⟨_, _, pre14 _ ?_, hrun, hended, _, _, rfl, ?_, ⟨_, rfl⟩, hW, hsame.mono (by decide) (by decide)⟩
      · show Steps p.tables e below (T12.setTop (mkF m 59 #[.val (.ref a1), .val (.long q2), .second, .val (.int w3)] [(.int (1 : Int32))])) _
        exact retN X12 hx (t := .boolean) Bd.returns (by simp) (hb hby own_d4_59) hr
      · show own_Q4 Z a1 q2 cap fr fb unf unp ub h0 n0 _ T12.heap _
        rw [e12]
        exact ⟨(1 : Int32), rfl, trivial, N12, K9, E_a1, F_mCapacity_a1, F_mFreeResults_a1, F_mFreeOutputBytes_a1, F_mUnfinished_a1, F_mUnposted_a1, F_mUnpostedBytes_a1⟩
    · -- hc51 not
      have pre15 : ∀ t, Steps p.tables e below (T12.setTop (mkF m 59 #[.val (.ref a1), .val (.long q2), .second, .val (.int w3)] [(.int (0 : Int32))])) t → Steps p.tables e below (s₁.setTop (entryFrame m #[(.ref a1), (.long q2)] 4)) t := by
        intro t k
        refine pre13 _ ?_
        show Steps p.tables e below (T12.setTop (mkF m 51 #[.val (.ref a1), .val (.long q2), .second, .val (.int w3)] [(.int (own_max (0 : Int32) (cap - (own_held (unf - (1 : Int32)) (unp + (1 : Int32)) fr (ub + q2) fb))))])) _
        refine XS.ifYes X12.here hx rfl (pc0 := 51) (pc' := 58) rfl (hb hby own_d4_51) rfl ((if0 _ _).trans (flt hc51).2.2.2) (by decide) (by decide) ?_
        show Steps p.tables e below (T12.setTop (mkF m 58 #[.val (.ref a1), .val (.long q2), .second, .val (.int w3)] [])) _
        refine XS.iconst X12.here hx rfl (hb hby own_d4_58) ?_
        exact k
      obtain ⟨fs, hr, hrun, hended, hW, hsame⟩ := X12.leave (v := some (.int (0 : Int32))) (fun h => by rw [Bd.returns] at h; cases h)
      refine ⟨_, _, pre15 _ ?_, hrun, hended, _, _, rfl, ?_, ⟨_, rfl⟩, hW, hsame.mono (by decide) (by decide)⟩
      · show Steps p.tables e below (T12.setTop (mkF m 59 #[.val (.ref a1), .val (.long q2), .second, .val (.int w3)] [(.int (0 : Int32))])) _
        exact retN X12 hx (t := .boolean) Bd.returns (by simp) (hb hby own_d4_59) hr
      · show own_Q4 Z a1 q2 cap fr fb unf unp ub h0 n0 _ T12.heap _
        rw [e12]
        exact ⟨(0 : Int32), rfl, trivial, N12, K9, E_a1, F_mCapacity_a1, F_mFreeResults_a1, F_mFreeOutputBytes_a1, F_mUnfinished_a1, F_mUnposted_a1, F_mUnpostedBytes_a1⟩
theorem own_d7_0 : decode prog_27_method_6_code 0 = .ok (.aload_n 0, 1) := by decide +kernel
theorem own_d7_1 : decode prog_27_method_6_code 1 = .ok (.dup, 1) := by decide +kernel
theorem own_d7_2 : decode prog_27_method_6_code 2 = .ok (.getfield 20, 3) := by decide +kernel
theorem own_d7_5 : decode prog_27_method_6_code 5 = .ok (.iload_n 1, 1) := by decide +kernel
theorem own_d7_6 : decode prog_27_method_6_code 6 = .ok (.isub, 1) := by decide +kernel
theorem own_d7_7 : decode prog_27_method_6_code 7 = .ok (.putfield 20, 3) := by decide +kernel
theorem own_d7_10 : decode prog_27_method_6_code 10 = .ok (.aload_n 0, 1) := by decide +kernel
theorem own_d7_11 : decode prog_27_method_6_code 11 = .ok (.dup, 1) := by decide +kernel
theorem own_d7_12 : decode prog_27_method_6_code 12 = .ok (.getfield 23, 3) := by decide +kernel
theorem own_d7_15 : decode prog_27_method_6_code 15 = .ok (.lload_n 2, 1) := by decide +kernel
theorem own_d7_16 : decode prog_27_method_6_code 16 = .ok (.lsub, 1) := by decide +kernel
theorem own_d7_17 : decode prog_27_method_6_code 17 = .ok (.putfield 23, 3) := by decide +kernel
theorem own_d7_20 : decode prog_27_method_6_code 20 = .ok (.return_, 1) := by decide +kernel
theorem own_ef7 (m : MethodId) (x0 : Addr) (x1 : Int32) (x2 : Int64) : entryFrame m #[(.ref x0), (.int x1), (.long x2)] 4 = mkF m 0 #[.val (.ref x0), .val (.int x1), .val (.long x2), .second] [] := by first | (simp [entryFrame, mkF, argsToLocals, Value.category]; done) | rfl
def own_Q7 (Z : State) (a1 : Addr) (p2 : Int32) (q3 : Int64) (cap : Int32) (fr : Int32) (fb : Int64) (unf : Int32) (unp : Int32) (ub : Int64) (h0 : Heap) (n0 : Nat) (v : Option Value) (h : Heap) (L : List Loc) : Prop := v = none ∧ Fr n0 L ∧ Keep h0 h [a1] ∧ Exa Z h a1 "com/example/leafcutter/leafcutter/LeaseRoom" ∧ Fld Z h a1 "com/example/leafcutter/leafcutter/LeaseRoom" "mCapacity" "I" (.int cap) ∧ Fld Z h a1 "com/example/leafcutter/leafcutter/LeaseRoom" "mFreeResults" "I" (.int fr) ∧ Fld Z h a1 "com/example/leafcutter/leafcutter/LeaseRoom" "mFreeOutputBytes" "J" (.long fb) ∧ Fld Z h a1 "com/example/leafcutter/leafcutter/LeaseRoom" "mUnfinished" "I" (.int unf) ∧ Fld Z h a1 "com/example/leafcutter/leafcutter/LeaseRoom" "mUnposted" "I" (.int (unp - p2)) ∧ Fld Z h a1 "com/example/leafcutter/leafcutter/LeaseRoom" "mUnpostedBytes" "J" (.long (ub - q3))
set_option maxRecDepth 65536 in
set_option maxHeartbeats 40000000 in
theorem rm7 (l : Launch) (Z : State) (a0 : Array Value) (hw : ∀ d ∈ tables_1, d.before a0 Z = true) (ws : List Jvm.Cond) (a1 : Addr) (p2 : Int32) (q3 : Int64) (cap : Int32) (fr : Int32) (fb : Int64) (unf : Int32) (unp : Int32) (ub : Int64) (h0 : Heap) (n0 : Nat) (Z0 : n0 ≤ h0.size) (E_a1 : Exa Z h0 a1 "com/example/leafcutter/leafcutter/LeaseRoom") (F_mCapacity_a1 : Fld Z h0 a1 "com/example/leafcutter/leafcutter/LeaseRoom" "mCapacity" "I" (.int cap)) (F_mFreeResults_a1 : Fld Z h0 a1 "com/example/leafcutter/leafcutter/LeaseRoom" "mFreeResults" "I" (.int fr)) (F_mFreeOutputBytes_a1 : Fld Z h0 a1 "com/example/leafcutter/leafcutter/LeaseRoom" "mFreeOutputBytes" "J" (.long fb)) (F_mUnfinished_a1 : Fld Z h0 a1 "com/example/leafcutter/leafcutter/LeaseRoom" "mUnfinished" "I" (.int unf)) (F_mUnposted_a1 : Fld Z h0 a1 "com/example/leafcutter/leafcutter/LeaseRoom" "mUnposted" "I" (.int unp)) (F_mUnpostedBytes_a1 : Fld Z h0 a1 "com/example/leafcutter/leafcutter/LeaseRoom" "mUnpostedBytes" "J" (.long ub)) (g_a1 : n0 ≤ a1) :
    MetFree l (⟨"com/example/leafcutter/leafcutter/LeaseRoom", "posted", "(IJ)V"⟩ : MethodName) (head1 (Jvm.Cond.code (⟨"com/example/leafcutter/leafcutter/LeaseRoom", "posted", "(IJ)V"⟩ : MethodName) prog_27_method_6_code 4 none :: ws) ({ frames := 0, cells := 0, slots := 0, locals := 0 } : Room)) (fun a U => a = #[(.ref a1), (.int p2), (.long q3)] ∧ Z.Warmed39 U.vm ∧ U.heap = h0) (fun _ _ _ _ _ => True) (fun _ U o U' => ∃ v L, o = .returned v ∧ own_Q7 Z a1 p2 q3 cap fr fb unf unp ub h0 n0 v U'.heap L ∧ FrameEnd U o U' L ({ frames := 0, cells := 0, slots := 0, locals := 0 } : Room).cells ({ frames := 0, cells := 0, slots := 0, locals := 0 } : Room).slots) := by
  refine MetFree.of_bodySF (plainFor_of_name own_pn7) hisR ?_
  intro p e s m args below meth c s₁ Bd hml0 hP hK
  obtain ⟨rfl, hZ, hh⟩ := hP
  have hx := Bd.exec
  have hby := Bd.bytes
  have hml : c.maxLocals = 4 := hml0
  have hown : s.vm.findClass "com/example/leafcutter/leafcutter/LeaseRoom" = some m.cls := findClass_of_methodNamed Bd.named
  have hnm := (name_of_methodNamed Bd.named Bd.method).1
  have X0 : Stand p l e ({ frames := 0, cells := 0, slots := 0, locals := 0 } : Room) s m #[(.ref a1), (.int p2), (.long q3)] below meth c s₁ [] 0 0 := Stand.of_body Bd
  have e0 : s₁.heap = h0 := by rw [← hh, Bd.state]; rfl
  have N0 := Fr.nil n0
  have pre0 : ∀ t, Steps p.tables e below (s₁.setTop (mkF m 0 #[.val (.ref a1), .val (.int p2), .val (.long q3), .second] [])) t → Steps p.tables e below (s₁.setTop (entryFrame m #[(.ref a1), (.int p2), (.long q3)] 4)) t := fun t k => castTop (own_ef7 m a1 p2 q3) k
  have K0 := Keep.refl h0 [a1]
  obtain ⟨T1, X1, e1, st1⟩ := getF X0 hx hZ hown (host := "") (Or.inl (hw _ (List.mem_of_getElem? (i := 35) rfl))) Via.refl e0 F_mUnposted_a1 (g := (mkF m 2 #[.val (.ref a1), .val (.int p2), .val (.long q3), .second] [(.ref a1), (.ref a1)])) rfl rfl (hb hby own_d7_2)
  obtain ⟨T2, h2, X2, e2, W2, st2⟩ := putF X1 hx hZ hown (host := "") (Or.inl (hw _ (List.mem_of_getElem? (i := 35) rfl))) Via.refl e1 F_mUnposted_a1 E_a1 (Or.inl (hw _ (List.mem_of_getElem? (i := 36) rfl))) (hw _ (List.mem_of_getElem? (i := 4) rfl)) (ty := .int) (by decide) rfl rfl (g := (mkF m 7 #[.val (.ref a1), .val (.int p2), .val (.long q3), .second] [(.int (unp - p2)), (.ref a1)])) rfl rfl (hb hby own_d7_7)
  have E_a1 := E_a1.wr W2
  have F_mCapacity_a1 := F_mCapacity_a1.other W2 (Or.inr (slot_ne (Or.inr (hw _ (List.mem_of_getElem? (i := 13) rfl))) (Or.inl (hw _ (List.mem_of_getElem? (i := 36) rfl))) (by decide) (t := .int) (t' := .int) (by decide) (by decide)))
  have F_mFreeResults_a1 := F_mFreeResults_a1.other W2 (Or.inr (slot_ne (Or.inr (hw _ (List.mem_of_getElem? (i := 15) rfl))) (Or.inl (hw _ (List.mem_of_getElem? (i := 36) rfl))) (by decide) (t := .int) (t' := .int) (by decide) (by decide)))
  have F_mFreeOutputBytes_a1 := F_mFreeOutputBytes_a1.other W2 (Or.inr (slot_ne (Or.inr (hw _ (List.mem_of_getElem? (i := 17) rfl))) (Or.inl (hw _ (List.mem_of_getElem? (i := 36) rfl))) (by decide) (t := .long) (t' := .int) (by decide) (by decide)))
  have F_mUnfinished_a1 := F_mUnfinished_a1.other W2 (Or.inr (slot_ne (Or.inl (hw _ (List.mem_of_getElem? (i := 24) rfl))) (Or.inl (hw _ (List.mem_of_getElem? (i := 36) rfl))) (by decide) (t := .int) (t' := .int) (by decide) (by decide)))
  have F_mUnpostedBytes_a1 := F_mUnpostedBytes_a1.other W2 (Or.inr (slot_ne (Or.inl (hw _ (List.mem_of_getElem? (i := 38) rfl))) (Or.inl (hw _ (List.mem_of_getElem? (i := 36) rfl))) (by decide) (t := .long) (t' := .int) (by decide) (by decide)))
  have Z2 : n0 ≤ h2.size := Nat.le_trans Z0 (Keep.of_wr W2).1
  have K2 := K0.wr W2 (Or.inl (List.mem_of_getElem? (i := 0) rfl))
  have N2 := Fr.snoc X2 N0 g_a1
  have F_mUnposted_a1 : Fld Z h2 a1 "com/example/leafcutter/leafcutter/LeaseRoom" "mUnposted" "I" (.int (unp - p2)) := F_mUnposted_a1.same W2
  obtain ⟨T3, X3, e3, st3⟩ := getF X2 hx hZ hown (host := "") (Or.inl (hw _ (List.mem_of_getElem? (i := 37) rfl))) Via.refl e2 F_mUnpostedBytes_a1 (g := (mkF m 12 #[.val (.ref a1), .val (.int p2), .val (.long q3), .second] [(.ref a1), (.ref a1)])) rfl rfl (hb hby own_d7_12)
  obtain ⟨T4, h4, X4, e4, W4, st4⟩ := putF X3 hx hZ hown (host := "") (Or.inl (hw _ (List.mem_of_getElem? (i := 37) rfl))) Via.refl e3 F_mUnpostedBytes_a1 E_a1 (Or.inl (hw _ (List.mem_of_getElem? (i := 38) rfl))) (hw _ (List.mem_of_getElem? (i := 4) rfl)) (ty := .long) (by decide) rfl rfl (g := (mkF m 17 #[.val (.ref a1), .val (.int p2), .val (.long q3), .second] [(.long (ub - q3)), (.ref a1)])) rfl rfl (hb hby own_d7_17)
  have E_a1 := E_a1.wr W4
  have F_mCapacity_a1 := F_mCapacity_a1.other W4 (Or.inr (slot_ne (Or.inr (hw _ (List.mem_of_getElem? (i := 13) rfl))) (Or.inl (hw _ (List.mem_of_getElem? (i := 38) rfl))) (by decide) (t := .int) (t' := .long) (by decide) (by decide)))
  have F_mFreeResults_a1 := F_mFreeResults_a1.other W4 (Or.inr (slot_ne (Or.inr (hw _ (List.mem_of_getElem? (i := 15) rfl))) (Or.inl (hw _ (List.mem_of_getElem? (i := 38) rfl))) (by decide) (t := .int) (t' := .long) (by decide) (by decide)))
  have F_mFreeOutputBytes_a1 := F_mFreeOutputBytes_a1.other W4 (Or.inr (slot_ne (Or.inr (hw _ (List.mem_of_getElem? (i := 17) rfl))) (Or.inl (hw _ (List.mem_of_getElem? (i := 38) rfl))) (by decide) (t := .long) (t' := .long) (by decide) (by decide)))
  have F_mUnfinished_a1 := F_mUnfinished_a1.other W4 (Or.inr (slot_ne (Or.inl (hw _ (List.mem_of_getElem? (i := 24) rfl))) (Or.inl (hw _ (List.mem_of_getElem? (i := 38) rfl))) (by decide) (t := .int) (t' := .long) (by decide) (by decide)))
  have F_mUnposted_a1 := F_mUnposted_a1.other W4 (Or.inr (slot_ne (Or.inl (hw _ (List.mem_of_getElem? (i := 36) rfl))) (Or.inl (hw _ (List.mem_of_getElem? (i := 38) rfl))) (by decide) (t := .int) (t' := .long) (by decide) (by decide)))
  have Z4 : n0 ≤ h4.size := Nat.le_trans Z2 (Keep.of_wr W4).1
  have K4 := K2.wr W4 (Or.inl (List.mem_of_getElem? (i := 0) rfl))
  have N4 := Fr.snoc X4 N2 g_a1
  have F_mUnpostedBytes_a1 : Fld Z h4 a1 "com/example/leafcutter/leafcutter/LeaseRoom" "mUnpostedBytes" "J" (.long (ub - q3)) := F_mUnpostedBytes_a1.same W4
  have pre5 : ∀ t, Steps p.tables e below (T4.setTop (mkF m 20 #[.val (.ref a1), .val (.int p2), .val (.long q3), .second] [])) t → Steps p.tables e below (s₁.setTop (entryFrame m #[(.ref a1), (.int p2), (.long q3)] 4)) t := by
    intro t k
    refine pre0 _ ?_
    show Steps p.tables e below (s₁.setTop (mkF m 0 #[.val (.ref a1), .val (.int p2), .val (.long q3), .second] [])) _
    refine XS.aloadN X0.here hx rfl (hb hby own_d7_0) rfl rfl ?_
    show Steps p.tables e below (s₁.setTop (mkF m 1 #[.val (.ref a1), .val (.int p2), .val (.long q3), .second] [(.ref a1)])) _
    refine XS.dup X0.here hx rfl (hb hby own_d7_1) rfl rfl ?_
    show Steps p.tables e below (s₁.setTop (mkF m 2 #[.val (.ref a1), .val (.int p2), .val (.long q3), .second] [(.ref a1), (.ref a1)])) _
    refine st1 _ ?_
    show Steps p.tables e below (T1.setTop (mkF m 5 #[.val (.ref a1), .val (.int p2), .val (.long q3), .second] [(.int unp), (.ref a1)])) _
    refine XS.iloadN X1.here hx rfl (hb hby own_d7_5) rfl ?_
    show Steps p.tables e below (T1.setTop (mkF m 6 #[.val (.ref a1), .val (.int p2), .val (.long q3), .second] [(.int p2), (.int unp), (.ref a1)])) _
    refine XS.isub X1.here hx rfl (hb hby own_d7_6) rfl ?_
    show Steps p.tables e below (T1.setTop (mkF m 7 #[.val (.ref a1), .val (.int p2), .val (.long q3), .second] [(.int (unp - p2)), (.ref a1)])) _
    refine st2 _ ?_
    show Steps p.tables e below (T2.setTop (mkF m 10 #[.val (.ref a1), .val (.int p2), .val (.long q3), .second] [])) _
    refine XS.aloadN X2.here hx rfl (hb hby own_d7_10) rfl rfl ?_
    show Steps p.tables e below (T2.setTop (mkF m 11 #[.val (.ref a1), .val (.int p2), .val (.long q3), .second] [(.ref a1)])) _
    refine XS.dup X2.here hx rfl (hb hby own_d7_11) rfl rfl ?_
    show Steps p.tables e below (T2.setTop (mkF m 12 #[.val (.ref a1), .val (.int p2), .val (.long q3), .second] [(.ref a1), (.ref a1)])) _
    refine st3 _ ?_
    show Steps p.tables e below (T3.setTop (mkF m 15 #[.val (.ref a1), .val (.int p2), .val (.long q3), .second] [(.long ub), (.ref a1)])) _
    refine XS.lloadN X3.here hx rfl (hb hby own_d7_15) rfl ?_
    show Steps p.tables e below (T3.setTop (mkF m 16 #[.val (.ref a1), .val (.int p2), .val (.long q3), .second] [(.long q3), (.long ub), (.ref a1)])) _
    refine XS.lsub X3.here hx rfl (hb hby own_d7_16) rfl ?_
    show Steps p.tables e below (T3.setTop (mkF m 17 #[.val (.ref a1), .val (.int p2), .val (.long q3), .second] [(.long (ub - q3)), (.ref a1)])) _
    refine st4 _ ?_
    exact k
  obtain ⟨fs, hr, hrun, hended, hW, hsame⟩ := X4.leave (v := none) (fun _ => rfl)
  refine ⟨_, _, pre5 _ ?_, hrun, hended, _, _, rfl, ?_, ⟨_, rfl⟩, hW, hsame.mono (by decide) (by decide)⟩
  · show Steps p.tables e below (T4.setTop (mkF m 20 #[.val (.ref a1), .val (.int p2), .val (.long q3), .second] [])) _
    exact X4.returnOut hx Bd.returns (hb hby own_d7_20) hr
  · show own_Q7 Z a1 p2 q3 cap fr fb unf unp ub h0 n0 _ T4.heap _
    rw [e4]
    exact ⟨rfl, N4, K4, E_a1, F_mCapacity_a1, F_mFreeResults_a1, F_mFreeOutputBytes_a1, F_mUnfinished_a1, F_mUnposted_a1, F_mUnpostedBytes_a1⟩
theorem own_ef0 (m : MethodId) (x0 : Int32) (x1 : Int32) (x2 : Int64) (x3 : Int64) (x4 : Int64) (x5 : Int32) : entryFrame m #[(.int x0), (.int x1), (.long x2), (.long x3), (.long x4), (.int x5)] maxLocals = mkF m 0 #[.val (.int x0), .val (.int x1), .val (.long x2), .second, .val (.long x3), .second, .val (.long x4), .second, .val (.int x5), .unset, .unset, .unset, .unset, .unset, .unset, .unset, .unset, .unset, .unset, .unset, .unset, .unset, .unset, .unset, .unset] [] := by first | (simp [entryFrame, mkF, argsToLocals, Value.category, maxLocals]; done) | rfl
def own_Q0 (Z : State) (p1 : Int32) (p2 : Int32) (q3 : Int64) (q4 : Int64) (q5 : Int64) (p6 : Int32) (h0 : Heap) (n0 : Nat) (v : Option Value) (h : Heap) (L : List Loc) : Prop := v = some (.int (1 : Int32)) ∧ Fr n0 L
set_option maxRecDepth 65536 in
set_option maxHeartbeats 40000000 in
theorem rm0 (l : Launch) (Z : State) (a0 : Array Value) (hw : ∀ d ∈ tables_1, d.before a0 Z = true) (ws : List Jvm.Cond) (p1 : Int32) (p2 : Int32) (q3 : Int64) (q4 : Int64) (q5 : Int64) (p6 : Int32) (h0 : Heap) (n0 : Nat) (Z0 : n0 ≤ h0.size)  :
    MetFree l x (head1 (Jvm.Cond.code x code maxLocals ret :: ws) room_1) (fun a U => a = #[(.int p1), (.int p2), (.long q3), (.long q4), (.long q5), (.int p6)] ∧ Z.Warmed39 U.vm ∧ U.heap = h0) (fun _ _ _ _ _ => True) (fun _ U o U' => ∃ v L, o = .returned v ∧ own_Q0 Z p1 p2 q3 q4 q5 p6 h0 n0 v U'.heap L ∧ FrameEnd U o U' L room_1.cells room_1.slots) := by
  refine MetFree.of_bodySF (plainFor_of_name own_pn0) hisR ?_
  intro p e s m args below meth c s₁ Bd hml0 hP hK
  obtain ⟨rfl, hZ, hh⟩ := hP
  have hx := Bd.exec
  have hby := Bd.bytes
  have hml : c.maxLocals = 25 := hml0
  have hown : s.vm.findClass "com/example/leafcutter/leafcutter/LeaseRoomPostedPinLaw" = some m.cls := findClass_of_methodNamed Bd.named
  have hnm := (name_of_methodNamed Bd.named Bd.method).1
  have X0 : Stand p l e room_1 s m #[(.int p1), (.int p2), (.long q3), (.long q4), (.long q5), (.int p6)] below meth c s₁ [] 0 0 := Stand.of_body Bd
  have e0 : s₁.heap = h0 := by rw [← hh, Bd.state]; rfl
  have N0 := Fr.nil n0
  have pre0 : ∀ t, Steps p.tables e below (s₁.setTop (mkF m 0 #[.val (.int p1), .val (.int p2), .val (.long q3), .second, .val (.long q4), .second, .val (.long q5), .second, .val (.int p6), .unset, .unset, .unset, .unset, .unset, .unset, .unset, .unset, .unset, .unset, .unset, .unset, .unset, .unset, .unset, .unset] [])) t → Steps p.tables e below (s₁.setTop (entryFrame m #[(.int p1), (.int p2), (.long q3), (.long q4), (.long q5), (.int p6)] maxLocals)) t := fun t k => castTop (own_ef0 m p1 p2 q3 q4 q5 p6) k
  have pre1 : ∀ t, Steps p.tables e below (s₁.setTop (mkF m 42 #[.val (.int p1), .val (.int p2), .val (.long q3), .second, .val (.long q4), .second, .val (.long q5), .second, .val (.int p6), .val (.int (p1 &&& (65535 : Int32))), .val (.int (((p6.toUInt32 >>> ((8 : Int32) &&& 31).toUInt32).toInt32) &&& (255 : Int32))), .val (.int ((p6 &&& (2147483647 : Int32)) % (3 : Int32))), .val (.long (q4 &&& (4611686018427387903 : Int64))), .second, .val (.long (q5 &&& (4611686018427387903 : Int64))), .second, .unset, .unset, .unset, .unset, .unset, .unset, .unset, .unset, .unset] [])) t → Steps p.tables e below (s₁.setTop (entryFrame m #[(.int p1), (.int p2), (.long q3), (.long q4), (.long q5), (.int p6)] maxLocals)) t := by
    intro t k
    refine pre0 _ ?_
    show Steps p.tables e below (s₁.setTop (mkF m 0 #[.val (.int p1), .val (.int p2), .val (.long q3), .second, .val (.long q4), .second, .val (.long q5), .second, .val (.int p6), .unset, .unset, .unset, .unset, .unset, .unset, .unset, .unset, .unset, .unset, .unset, .unset, .unset, .unset, .unset, .unset] [])) _
    refine XS.iloadN X0.here hx rfl (hb hby at_0) rfl ?_
    show Steps p.tables e below (s₁.setTop (mkF m 1 #[.val (.int p1), .val (.int p2), .val (.long q3), .second, .val (.long q4), .second, .val (.long q5), .second, .val (.int p6), .unset, .unset, .unset, .unset, .unset, .unset, .unset, .unset, .unset, .unset, .unset, .unset, .unset, .unset, .unset, .unset] [(.int p1)])) _
    refine X0.ldcI hx hown (mvT hZ (hw _ (List.mem_of_getElem? (i := 0) rfl))) rfl (hb hby at_1) ?_
    show Steps p.tables e below (s₁.setTop (mkF m 3 #[.val (.int p1), .val (.int p2), .val (.long q3), .second, .val (.long q4), .second, .val (.long q5), .second, .val (.int p6), .unset, .unset, .unset, .unset, .unset, .unset, .unset, .unset, .unset, .unset, .unset, .unset, .unset, .unset, .unset, .unset] [(.int (65535 : Int32)), (.int p1)])) _
    refine XS.iand X0.here hx rfl (hb hby at_3) rfl ?_
    show Steps p.tables e below (s₁.setTop (mkF m 4 #[.val (.int p1), .val (.int p2), .val (.long q3), .second, .val (.long q4), .second, .val (.long q5), .second, .val (.int p6), .unset, .unset, .unset, .unset, .unset, .unset, .unset, .unset, .unset, .unset, .unset, .unset, .unset, .unset, .unset, .unset] [(.int (p1 &&& (65535 : Int32)))])) _
    refine XS.istore X0.here hx rfl (hb hby at_4) rfl (l' := #[.val (.int p1), .val (.int p2), .val (.long q3), .second, .val (.long q4), .second, .val (.long q5), .second, .val (.int p6), .val (.int (p1 &&& (65535 : Int32))), .unset, .unset, .unset, .unset, .unset, .unset, .unset, .unset, .unset, .unset, .unset, .unset, .unset, .unset, .unset]) rfl ?_
    show Steps p.tables e below (s₁.setTop (mkF m 6 #[.val (.int p1), .val (.int p2), .val (.long q3), .second, .val (.long q4), .second, .val (.long q5), .second, .val (.int p6), .val (.int (p1 &&& (65535 : Int32))), .unset, .unset, .unset, .unset, .unset, .unset, .unset, .unset, .unset, .unset, .unset, .unset, .unset, .unset, .unset] [])) _
    refine XS.iload X0.here hx rfl (hb hby at_6) rfl ?_
    show Steps p.tables e below (s₁.setTop (mkF m 8 #[.val (.int p1), .val (.int p2), .val (.long q3), .second, .val (.long q4), .second, .val (.long q5), .second, .val (.int p6), .val (.int (p1 &&& (65535 : Int32))), .unset, .unset, .unset, .unset, .unset, .unset, .unset, .unset, .unset, .unset, .unset, .unset, .unset, .unset, .unset] [(.int p6)])) _
    refine XS.bipush X0.here hx rfl (hb hby at_8) ?_
    show Steps p.tables e below (s₁.setTop (mkF m 10 #[.val (.int p1), .val (.int p2), .val (.long q3), .second, .val (.long q4), .second, .val (.long q5), .second, .val (.int p6), .val (.int (p1 &&& (65535 : Int32))), .unset, .unset, .unset, .unset, .unset, .unset, .unset, .unset, .unset, .unset, .unset, .unset, .unset, .unset, .unset] [(.int (8 : Int32)), (.int p6)])) _
    refine XS.iushr X0.here hx rfl (hb hby at_10) rfl ?_
    show Steps p.tables e below (s₁.setTop (mkF m 11 #[.val (.int p1), .val (.int p2), .val (.long q3), .second, .val (.long q4), .second, .val (.long q5), .second, .val (.int p6), .val (.int (p1 &&& (65535 : Int32))), .unset, .unset, .unset, .unset, .unset, .unset, .unset, .unset, .unset, .unset, .unset, .unset, .unset, .unset, .unset] [(.int ((p6.toUInt32 >>> ((8 : Int32) &&& 31).toUInt32).toInt32))])) _
    refine XS.sipush X0.here hx rfl (hb hby at_11) ?_
    show Steps p.tables e below (s₁.setTop (mkF m 14 #[.val (.int p1), .val (.int p2), .val (.long q3), .second, .val (.long q4), .second, .val (.long q5), .second, .val (.int p6), .val (.int (p1 &&& (65535 : Int32))), .unset, .unset, .unset, .unset, .unset, .unset, .unset, .unset, .unset, .unset, .unset, .unset, .unset, .unset, .unset] [(.int (255 : Int32)), (.int ((p6.toUInt32 >>> ((8 : Int32) &&& 31).toUInt32).toInt32))])) _
    refine XS.iand X0.here hx rfl (hb hby at_14) rfl ?_
    show Steps p.tables e below (s₁.setTop (mkF m 15 #[.val (.int p1), .val (.int p2), .val (.long q3), .second, .val (.long q4), .second, .val (.long q5), .second, .val (.int p6), .val (.int (p1 &&& (65535 : Int32))), .unset, .unset, .unset, .unset, .unset, .unset, .unset, .unset, .unset, .unset, .unset, .unset, .unset, .unset, .unset] [(.int (((p6.toUInt32 >>> ((8 : Int32) &&& 31).toUInt32).toInt32) &&& (255 : Int32)))])) _
    refine XS.istore X0.here hx rfl (hb hby at_15) rfl (l' := #[.val (.int p1), .val (.int p2), .val (.long q3), .second, .val (.long q4), .second, .val (.long q5), .second, .val (.int p6), .val (.int (p1 &&& (65535 : Int32))), .val (.int (((p6.toUInt32 >>> ((8 : Int32) &&& 31).toUInt32).toInt32) &&& (255 : Int32))), .unset, .unset, .unset, .unset, .unset, .unset, .unset, .unset, .unset, .unset, .unset, .unset, .unset, .unset]) rfl ?_
    show Steps p.tables e below (s₁.setTop (mkF m 17 #[.val (.int p1), .val (.int p2), .val (.long q3), .second, .val (.long q4), .second, .val (.long q5), .second, .val (.int p6), .val (.int (p1 &&& (65535 : Int32))), .val (.int (((p6.toUInt32 >>> ((8 : Int32) &&& 31).toUInt32).toInt32) &&& (255 : Int32))), .unset, .unset, .unset, .unset, .unset, .unset, .unset, .unset, .unset, .unset, .unset, .unset, .unset, .unset] [])) _
    refine XS.iload X0.here hx rfl (hb hby at_17) rfl ?_
    show Steps p.tables e below (s₁.setTop (mkF m 19 #[.val (.int p1), .val (.int p2), .val (.long q3), .second, .val (.long q4), .second, .val (.long q5), .second, .val (.int p6), .val (.int (p1 &&& (65535 : Int32))), .val (.int (((p6.toUInt32 >>> ((8 : Int32) &&& 31).toUInt32).toInt32) &&& (255 : Int32))), .unset, .unset, .unset, .unset, .unset, .unset, .unset, .unset, .unset, .unset, .unset, .unset, .unset, .unset] [(.int p6)])) _
    refine X0.ldcI hx hown (mvT hZ (hw _ (List.mem_of_getElem? (i := 1) rfl))) rfl (hb hby at_19) ?_
    show Steps p.tables e below (s₁.setTop (mkF m 21 #[.val (.int p1), .val (.int p2), .val (.long q3), .second, .val (.long q4), .second, .val (.long q5), .second, .val (.int p6), .val (.int (p1 &&& (65535 : Int32))), .val (.int (((p6.toUInt32 >>> ((8 : Int32) &&& 31).toUInt32).toInt32) &&& (255 : Int32))), .unset, .unset, .unset, .unset, .unset, .unset, .unset, .unset, .unset, .unset, .unset, .unset, .unset, .unset] [(.int (2147483647 : Int32)), (.int p6)])) _
    refine XS.iand X0.here hx rfl (hb hby at_21) rfl ?_
    show Steps p.tables e below (s₁.setTop (mkF m 22 #[.val (.int p1), .val (.int p2), .val (.long q3), .second, .val (.long q4), .second, .val (.long q5), .second, .val (.int p6), .val (.int (p1 &&& (65535 : Int32))), .val (.int (((p6.toUInt32 >>> ((8 : Int32) &&& 31).toUInt32).toInt32) &&& (255 : Int32))), .unset, .unset, .unset, .unset, .unset, .unset, .unset, .unset, .unset, .unset, .unset, .unset, .unset, .unset] [(.int (p6 &&& (2147483647 : Int32)))])) _
    refine XS.iconst X0.here hx rfl (hb hby at_22) ?_
    show Steps p.tables e below (s₁.setTop (mkF m 23 #[.val (.int p1), .val (.int p2), .val (.long q3), .second, .val (.long q4), .second, .val (.long q5), .second, .val (.int p6), .val (.int (p1 &&& (65535 : Int32))), .val (.int (((p6.toUInt32 >>> ((8 : Int32) &&& 31).toUInt32).toInt32) &&& (255 : Int32))), .unset, .unset, .unset, .unset, .unset, .unset, .unset, .unset, .unset, .unset, .unset, .unset, .unset, .unset] [(.int (3 : Int32)), (.int (p6 &&& (2147483647 : Int32)))])) _
    refine iremM X0 hx rfl (hb hby at_23) rfl (by decide) ?_
    show Steps p.tables e below (s₁.setTop (mkF m 24 #[.val (.int p1), .val (.int p2), .val (.long q3), .second, .val (.long q4), .second, .val (.long q5), .second, .val (.int p6), .val (.int (p1 &&& (65535 : Int32))), .val (.int (((p6.toUInt32 >>> ((8 : Int32) &&& 31).toUInt32).toInt32) &&& (255 : Int32))), .unset, .unset, .unset, .unset, .unset, .unset, .unset, .unset, .unset, .unset, .unset, .unset, .unset, .unset] [(.int ((p6 &&& (2147483647 : Int32)) % (3 : Int32)))])) _
    refine XS.istore X0.here hx rfl (hb hby at_24) rfl (l' := #[.val (.int p1), .val (.int p2), .val (.long q3), .second, .val (.long q4), .second, .val (.long q5), .second, .val (.int p6), .val (.int (p1 &&& (65535 : Int32))), .val (.int (((p6.toUInt32 >>> ((8 : Int32) &&& 31).toUInt32).toInt32) &&& (255 : Int32))), .val (.int ((p6 &&& (2147483647 : Int32)) % (3 : Int32))), .unset, .unset, .unset, .unset, .unset, .unset, .unset, .unset, .unset, .unset, .unset, .unset, .unset]) rfl ?_
    show Steps p.tables e below (s₁.setTop (mkF m 26 #[.val (.int p1), .val (.int p2), .val (.long q3), .second, .val (.long q4), .second, .val (.long q5), .second, .val (.int p6), .val (.int (p1 &&& (65535 : Int32))), .val (.int (((p6.toUInt32 >>> ((8 : Int32) &&& 31).toUInt32).toInt32) &&& (255 : Int32))), .val (.int ((p6 &&& (2147483647 : Int32)) % (3 : Int32))), .unset, .unset, .unset, .unset, .unset, .unset, .unset, .unset, .unset, .unset, .unset, .unset, .unset] [])) _
    refine XS.lload X0.here hx rfl (hb hby at_26) rfl ?_
    show Steps p.tables e below (s₁.setTop (mkF m 28 #[.val (.int p1), .val (.int p2), .val (.long q3), .second, .val (.long q4), .second, .val (.long q5), .second, .val (.int p6), .val (.int (p1 &&& (65535 : Int32))), .val (.int (((p6.toUInt32 >>> ((8 : Int32) &&& 31).toUInt32).toInt32) &&& (255 : Int32))), .val (.int ((p6 &&& (2147483647 : Int32)) % (3 : Int32))), .unset, .unset, .unset, .unset, .unset, .unset, .unset, .unset, .unset, .unset, .unset, .unset, .unset] [(.long q4)])) _
    refine X0.ldc2J hx hown (mvT hZ (hw _ (List.mem_of_getElem? (i := 2) rfl))) rfl (hb hby at_28) ?_
    show Steps p.tables e below (s₁.setTop (mkF m 31 #[.val (.int p1), .val (.int p2), .val (.long q3), .second, .val (.long q4), .second, .val (.long q5), .second, .val (.int p6), .val (.int (p1 &&& (65535 : Int32))), .val (.int (((p6.toUInt32 >>> ((8 : Int32) &&& 31).toUInt32).toInt32) &&& (255 : Int32))), .val (.int ((p6 &&& (2147483647 : Int32)) % (3 : Int32))), .unset, .unset, .unset, .unset, .unset, .unset, .unset, .unset, .unset, .unset, .unset, .unset, .unset] [(.long (4611686018427387903 : Int64)), (.long q4)])) _
    refine XS.land X0.here hx rfl (hb hby at_31) rfl ?_
    show Steps p.tables e below (s₁.setTop (mkF m 32 #[.val (.int p1), .val (.int p2), .val (.long q3), .second, .val (.long q4), .second, .val (.long q5), .second, .val (.int p6), .val (.int (p1 &&& (65535 : Int32))), .val (.int (((p6.toUInt32 >>> ((8 : Int32) &&& 31).toUInt32).toInt32) &&& (255 : Int32))), .val (.int ((p6 &&& (2147483647 : Int32)) % (3 : Int32))), .unset, .unset, .unset, .unset, .unset, .unset, .unset, .unset, .unset, .unset, .unset, .unset, .unset] [(.long (q4 &&& (4611686018427387903 : Int64)))])) _
    refine XS.lstore X0.here hx rfl (hb hby at_32) rfl (l' := #[.val (.int p1), .val (.int p2), .val (.long q3), .second, .val (.long q4), .second, .val (.long q5), .second, .val (.int p6), .val (.int (p1 &&& (65535 : Int32))), .val (.int (((p6.toUInt32 >>> ((8 : Int32) &&& 31).toUInt32).toInt32) &&& (255 : Int32))), .val (.int ((p6 &&& (2147483647 : Int32)) % (3 : Int32))), .val (.long (q4 &&& (4611686018427387903 : Int64))), .second, .unset, .unset, .unset, .unset, .unset, .unset, .unset, .unset, .unset, .unset, .unset]) rfl ?_
    show Steps p.tables e below (s₁.setTop (mkF m 34 #[.val (.int p1), .val (.int p2), .val (.long q3), .second, .val (.long q4), .second, .val (.long q5), .second, .val (.int p6), .val (.int (p1 &&& (65535 : Int32))), .val (.int (((p6.toUInt32 >>> ((8 : Int32) &&& 31).toUInt32).toInt32) &&& (255 : Int32))), .val (.int ((p6 &&& (2147483647 : Int32)) % (3 : Int32))), .val (.long (q4 &&& (4611686018427387903 : Int64))), .second, .unset, .unset, .unset, .unset, .unset, .unset, .unset, .unset, .unset, .unset, .unset] [])) _
    refine XS.lload X0.here hx rfl (hb hby at_34) rfl ?_
    show Steps p.tables e below (s₁.setTop (mkF m 36 #[.val (.int p1), .val (.int p2), .val (.long q3), .second, .val (.long q4), .second, .val (.long q5), .second, .val (.int p6), .val (.int (p1 &&& (65535 : Int32))), .val (.int (((p6.toUInt32 >>> ((8 : Int32) &&& 31).toUInt32).toInt32) &&& (255 : Int32))), .val (.int ((p6 &&& (2147483647 : Int32)) % (3 : Int32))), .val (.long (q4 &&& (4611686018427387903 : Int64))), .second, .unset, .unset, .unset, .unset, .unset, .unset, .unset, .unset, .unset, .unset, .unset] [(.long q5)])) _
    refine X0.ldc2J hx hown (mvT hZ (hw _ (List.mem_of_getElem? (i := 2) rfl))) rfl (hb hby at_36) ?_
    show Steps p.tables e below (s₁.setTop (mkF m 39 #[.val (.int p1), .val (.int p2), .val (.long q3), .second, .val (.long q4), .second, .val (.long q5), .second, .val (.int p6), .val (.int (p1 &&& (65535 : Int32))), .val (.int (((p6.toUInt32 >>> ((8 : Int32) &&& 31).toUInt32).toInt32) &&& (255 : Int32))), .val (.int ((p6 &&& (2147483647 : Int32)) % (3 : Int32))), .val (.long (q4 &&& (4611686018427387903 : Int64))), .second, .unset, .unset, .unset, .unset, .unset, .unset, .unset, .unset, .unset, .unset, .unset] [(.long (4611686018427387903 : Int64)), (.long q5)])) _
    refine XS.land X0.here hx rfl (hb hby at_39) rfl ?_
    show Steps p.tables e below (s₁.setTop (mkF m 40 #[.val (.int p1), .val (.int p2), .val (.long q3), .second, .val (.long q4), .second, .val (.long q5), .second, .val (.int p6), .val (.int (p1 &&& (65535 : Int32))), .val (.int (((p6.toUInt32 >>> ((8 : Int32) &&& 31).toUInt32).toInt32) &&& (255 : Int32))), .val (.int ((p6 &&& (2147483647 : Int32)) % (3 : Int32))), .val (.long (q4 &&& (4611686018427387903 : Int64))), .second, .unset, .unset, .unset, .unset, .unset, .unset, .unset, .unset, .unset, .unset, .unset] [(.long (q5 &&& (4611686018427387903 : Int64)))])) _
    refine XS.lstore X0.here hx rfl (hb hby at_40) rfl (l' := #[.val (.int p1), .val (.int p2), .val (.long q3), .second, .val (.long q4), .second, .val (.long q5), .second, .val (.int p6), .val (.int (p1 &&& (65535 : Int32))), .val (.int (((p6.toUInt32 >>> ((8 : Int32) &&& 31).toUInt32).toInt32) &&& (255 : Int32))), .val (.int ((p6 &&& (2147483647 : Int32)) % (3 : Int32))), .val (.long (q4 &&& (4611686018427387903 : Int64))), .second, .val (.long (q5 &&& (4611686018427387903 : Int64))), .second, .unset, .unset, .unset, .unset, .unset, .unset, .unset, .unset, .unset]) rfl ?_
    exact k
  obtain ⟨w16, hw16, pre2⟩ : ∃ (w16 : Int64), (True) ∧ ∀ t, Steps p.tables e below (s₁.setTop (mkF m 67 #[.val (.int p1), .val (.int p2), .val (.long q3), .second, .val (.long q4), .second, .val (.long q5), .second, .val (.int p6), .val (.int (p1 &&& (65535 : Int32))), .val (.int (((p6.toUInt32 >>> ((8 : Int32) &&& 31).toUInt32).toInt32) &&& (255 : Int32))), .val (.int ((p6 &&& (2147483647 : Int32)) % (3 : Int32))), .val (.long (q4 &&& (4611686018427387903 : Int64))), .second, .val (.long (q5 &&& (4611686018427387903 : Int64))), .second, .unset, .unset, .unset, .unset, .unset, .unset, .unset, .unset, .unset] [(.long w16)])) t → Steps p.tables e below (s₁.setTop (entryFrame m #[(.int p1), (.int p2), (.long q3), (.long q4), (.long q5), (.int p6)] maxLocals)) t := by
    have pre3 : ∀ t, Steps p.tables e below (s₁.setTop (mkF m 44 #[.val (.int p1), .val (.int p2), .val (.long q3), .second, .val (.long q4), .second, .val (.long q5), .second, .val (.int p6), .val (.int (p1 &&& (65535 : Int32))), .val (.int (((p6.toUInt32 >>> ((8 : Int32) &&& 31).toUInt32).toInt32) &&& (255 : Int32))), .val (.int ((p6 &&& (2147483647 : Int32)) % (3 : Int32))), .val (.long (q4 &&& (4611686018427387903 : Int64))), .second, .val (.long (q5 &&& (4611686018427387903 : Int64))), .second, .unset, .unset, .unset, .unset, .unset, .unset, .unset, .unset, .unset] [(.int ((p6 &&& (2147483647 : Int32)) % (3 : Int32)))])) t → Steps p.tables e below (s₁.setTop (entryFrame m #[(.int p1), (.int p2), (.long q3), (.long q4), (.long q5), (.int p6)] maxLocals)) t := by
      intro t k
      refine pre1 _ ?_
      show Steps p.tables e below (s₁.setTop (mkF m 42 #[.val (.int p1), .val (.int p2), .val (.long q3), .second, .val (.long q4), .second, .val (.long q5), .second, .val (.int p6), .val (.int (p1 &&& (65535 : Int32))), .val (.int (((p6.toUInt32 >>> ((8 : Int32) &&& 31).toUInt32).toInt32) &&& (255 : Int32))), .val (.int ((p6 &&& (2147483647 : Int32)) % (3 : Int32))), .val (.long (q4 &&& (4611686018427387903 : Int64))), .second, .val (.long (q5 &&& (4611686018427387903 : Int64))), .second, .unset, .unset, .unset, .unset, .unset, .unset, .unset, .unset, .unset] [])) _
      refine XS.iload X0.here hx rfl (hb hby at_42) rfl ?_
      exact k
    by_cases hc44 : ((p6 &&& (2147483647 : Int32)) % (3 : Int32)) = (0 : Int32)
    · -- hc44 
      refine ⟨(0 : Int64), by trivial, fun t k => ?_⟩
      refine pre3 _ ?_
      show Steps p.tables e below (s₁.setTop (mkF m 44 #[.val (.int p1), .val (.int p2), .val (.long q3), .second, .val (.long q4), .second, .val (.long q5), .second, .val (.int p6), .val (.int (p1 &&& (65535 : Int32))), .val (.int (((p6.toUInt32 >>> ((8 : Int32) &&& 31).toUInt32).toInt32) &&& (255 : Int32))), .val (.int ((p6 &&& (2147483647 : Int32)) % (3 : Int32))), .val (.long (q4 &&& (4611686018427387903 : Int64))), .second, .val (.long (q5 &&& (4611686018427387903 : Int64))), .second, .unset, .unset, .unset, .unset, .unset, .unset, .unset, .unset, .unset] [(.int ((p6 &&& (2147483647 : Int32)) % (3 : Int32)))])) _
      refine XS.ifNo X0.here hx rfl (hb hby at_44) rfl ((if0 _ _).trans (teq hc44).2) ?_
      show Steps p.tables e below (s₁.setTop (mkF m 47 #[.val (.int p1), .val (.int p2), .val (.long q3), .second, .val (.long q4), .second, .val (.long q5), .second, .val (.int p6), .val (.int (p1 &&& (65535 : Int32))), .val (.int (((p6.toUInt32 >>> ((8 : Int32) &&& 31).toUInt32).toInt32) &&& (255 : Int32))), .val (.int ((p6 &&& (2147483647 : Int32)) % (3 : Int32))), .val (.long (q4 &&& (4611686018427387903 : Int64))), .second, .val (.long (q5 &&& (4611686018427387903 : Int64))), .second, .unset, .unset, .unset, .unset, .unset, .unset, .unset, .unset, .unset] [])) _
      refine XS.lconst X0.here hx rfl (hb hby at_47) ?_
      show Steps p.tables e below (s₁.setTop (mkF m 48 #[.val (.int p1), .val (.int p2), .val (.long q3), .second, .val (.long q4), .second, .val (.long q5), .second, .val (.int p6), .val (.int (p1 &&& (65535 : Int32))), .val (.int (((p6.toUInt32 >>> ((8 : Int32) &&& 31).toUInt32).toInt32) &&& (255 : Int32))), .val (.int ((p6 &&& (2147483647 : Int32)) % (3 : Int32))), .val (.long (q4 &&& (4611686018427387903 : Int64))), .second, .val (.long (q5 &&& (4611686018427387903 : Int64))), .second, .unset, .unset, .unset, .unset, .unset, .unset, .unset, .unset, .unset] [(.long (0 : Int64))])) _
      refine XS.goto X0.here hx rfl (pc0 := 48) (pc' := 67) rfl (hb hby at_48) (by decide) (by decide) ?_
      exact k
    · -- hc44 not
      have pre4 : ∀ t, Steps p.tables e below (s₁.setTop (mkF m 54 #[.val (.int p1), .val (.int p2), .val (.long q3), .second, .val (.long q4), .second, .val (.long q5), .second, .val (.int p6), .val (.int (p1 &&& (65535 : Int32))), .val (.int (((p6.toUInt32 >>> ((8 : Int32) &&& 31).toUInt32).toInt32) &&& (255 : Int32))), .val (.int ((p6 &&& (2147483647 : Int32)) % (3 : Int32))), .val (.long (q4 &&& (4611686018427387903 : Int64))), .second, .val (.long (q5 &&& (4611686018427387903 : Int64))), .second, .unset, .unset, .unset, .unset, .unset, .unset, .unset, .unset, .unset] [(.int (1 : Int32)), (.int ((p6 &&& (2147483647 : Int32)) % (3 : Int32)))])) t → Steps p.tables e below (s₁.setTop (entryFrame m #[(.int p1), (.int p2), (.long q3), (.long q4), (.long q5), (.int p6)] maxLocals)) t := by
        intro t k
        refine pre3 _ ?_
        show Steps p.tables e below (s₁.setTop (mkF m 44 #[.val (.int p1), .val (.int p2), .val (.long q3), .second, .val (.long q4), .second, .val (.long q5), .second, .val (.int p6), .val (.int (p1 &&& (65535 : Int32))), .val (.int (((p6.toUInt32 >>> ((8 : Int32) &&& 31).toUInt32).toInt32) &&& (255 : Int32))), .val (.int ((p6 &&& (2147483647 : Int32)) % (3 : Int32))), .val (.long (q4 &&& (4611686018427387903 : Int64))), .second, .val (.long (q5 &&& (4611686018427387903 : Int64))), .second, .unset, .unset, .unset, .unset, .unset, .unset, .unset, .unset, .unset] [(.int ((p6 &&& (2147483647 : Int32)) % (3 : Int32)))])) _
        refine XS.ifYes X0.here hx rfl (pc0 := 44) (pc' := 51) rfl (hb hby at_44) rfl ((if0 _ _).trans (feq hc44).2) (by decide) (by decide) ?_
        show Steps p.tables e below (s₁.setTop (mkF m 51 #[.val (.int p1), .val (.int p2), .val (.long q3), .second, .val (.long q4), .second, .val (.long q5), .second, .val (.int p6), .val (.int (p1 &&& (65535 : Int32))), .val (.int (((p6.toUInt32 >>> ((8 : Int32) &&& 31).toUInt32).toInt32) &&& (255 : Int32))), .val (.int ((p6 &&& (2147483647 : Int32)) % (3 : Int32))), .val (.long (q4 &&& (4611686018427387903 : Int64))), .second, .val (.long (q5 &&& (4611686018427387903 : Int64))), .second, .unset, .unset, .unset, .unset, .unset, .unset, .unset, .unset, .unset] [])) _
        refine XS.iload X0.here hx rfl (hb hby at_51) rfl ?_
        show Steps p.tables e below (s₁.setTop (mkF m 53 #[.val (.int p1), .val (.int p2), .val (.long q3), .second, .val (.long q4), .second, .val (.long q5), .second, .val (.int p6), .val (.int (p1 &&& (65535 : Int32))), .val (.int (((p6.toUInt32 >>> ((8 : Int32) &&& 31).toUInt32).toInt32) &&& (255 : Int32))), .val (.int ((p6 &&& (2147483647 : Int32)) % (3 : Int32))), .val (.long (q4 &&& (4611686018427387903 : Int64))), .second, .val (.long (q5 &&& (4611686018427387903 : Int64))), .second, .unset, .unset, .unset, .unset, .unset, .unset, .unset, .unset, .unset] [(.int ((p6 &&& (2147483647 : Int32)) % (3 : Int32)))])) _
        refine XS.iconst X0.here hx rfl (hb hby at_53) ?_
        exact k
      by_cases hc54 : ((p6 &&& (2147483647 : Int32)) % (3 : Int32)) = (1 : Int32)
      · -- hc54 
        refine ⟨(q5 &&& (4611686018427387903 : Int64)), by trivial, fun t k => ?_⟩
        refine pre4 _ ?_
        show Steps p.tables e below (s₁.setTop (mkF m 54 #[.val (.int p1), .val (.int p2), .val (.long q3), .second, .val (.long q4), .second, .val (.long q5), .second, .val (.int p6), .val (.int (p1 &&& (65535 : Int32))), .val (.int (((p6.toUInt32 >>> ((8 : Int32) &&& 31).toUInt32).toInt32) &&& (255 : Int32))), .val (.int ((p6 &&& (2147483647 : Int32)) % (3 : Int32))), .val (.long (q4 &&& (4611686018427387903 : Int64))), .second, .val (.long (q5 &&& (4611686018427387903 : Int64))), .second, .unset, .unset, .unset, .unset, .unset, .unset, .unset, .unset, .unset] [(.int (1 : Int32)), (.int ((p6 &&& (2147483647 : Int32)) % (3 : Int32)))])) _
        refine XS.icmpNo X0.here hx rfl (hb hby at_54) rfl (teq hc54).2 ?_
        show Steps p.tables e below (s₁.setTop (mkF m 57 #[.val (.int p1), .val (.int p2), .val (.long q3), .second, .val (.long q4), .second, .val (.long q5), .second, .val (.int p6), .val (.int (p1 &&& (65535 : Int32))), .val (.int (((p6.toUInt32 >>> ((8 : Int32) &&& 31).toUInt32).toInt32) &&& (255 : Int32))), .val (.int ((p6 &&& (2147483647 : Int32)) % (3 : Int32))), .val (.long (q4 &&& (4611686018427387903 : Int64))), .second, .val (.long (q5 &&& (4611686018427387903 : Int64))), .second, .unset, .unset, .unset, .unset, .unset, .unset, .unset, .unset, .unset] [])) _
        refine XS.lload X0.here hx rfl (hb hby at_57) rfl ?_
        show Steps p.tables e below (s₁.setTop (mkF m 59 #[.val (.int p1), .val (.int p2), .val (.long q3), .second, .val (.long q4), .second, .val (.long q5), .second, .val (.int p6), .val (.int (p1 &&& (65535 : Int32))), .val (.int (((p6.toUInt32 >>> ((8 : Int32) &&& 31).toUInt32).toInt32) &&& (255 : Int32))), .val (.int ((p6 &&& (2147483647 : Int32)) % (3 : Int32))), .val (.long (q4 &&& (4611686018427387903 : Int64))), .second, .val (.long (q5 &&& (4611686018427387903 : Int64))), .second, .unset, .unset, .unset, .unset, .unset, .unset, .unset, .unset, .unset] [(.long (q5 &&& (4611686018427387903 : Int64)))])) _
        refine XS.goto X0.here hx rfl (pc0 := 59) (pc' := 67) rfl (hb hby at_59) (by decide) (by decide) ?_
        exact k
      · -- hc54 not
        refine ⟨((q4 &&& (4611686018427387903 : Int64)) + (q5 &&& (4611686018427387903 : Int64))), by trivial, fun t k => ?_⟩
        refine pre4 _ ?_
        show Steps p.tables e below (s₁.setTop (mkF m 54 #[.val (.int p1), .val (.int p2), .val (.long q3), .second, .val (.long q4), .second, .val (.long q5), .second, .val (.int p6), .val (.int (p1 &&& (65535 : Int32))), .val (.int (((p6.toUInt32 >>> ((8 : Int32) &&& 31).toUInt32).toInt32) &&& (255 : Int32))), .val (.int ((p6 &&& (2147483647 : Int32)) % (3 : Int32))), .val (.long (q4 &&& (4611686018427387903 : Int64))), .second, .val (.long (q5 &&& (4611686018427387903 : Int64))), .second, .unset, .unset, .unset, .unset, .unset, .unset, .unset, .unset, .unset] [(.int (1 : Int32)), (.int ((p6 &&& (2147483647 : Int32)) % (3 : Int32)))])) _
        refine XS.icmpYes X0.here hx rfl (pc0 := 54) (pc' := 62) rfl (hb hby at_54) rfl (feq hc54).2 (by decide) (by decide) ?_
        show Steps p.tables e below (s₁.setTop (mkF m 62 #[.val (.int p1), .val (.int p2), .val (.long q3), .second, .val (.long q4), .second, .val (.long q5), .second, .val (.int p6), .val (.int (p1 &&& (65535 : Int32))), .val (.int (((p6.toUInt32 >>> ((8 : Int32) &&& 31).toUInt32).toInt32) &&& (255 : Int32))), .val (.int ((p6 &&& (2147483647 : Int32)) % (3 : Int32))), .val (.long (q4 &&& (4611686018427387903 : Int64))), .second, .val (.long (q5 &&& (4611686018427387903 : Int64))), .second, .unset, .unset, .unset, .unset, .unset, .unset, .unset, .unset, .unset] [])) _
        refine XS.lload X0.here hx rfl (hb hby at_62) rfl ?_
        show Steps p.tables e below (s₁.setTop (mkF m 64 #[.val (.int p1), .val (.int p2), .val (.long q3), .second, .val (.long q4), .second, .val (.long q5), .second, .val (.int p6), .val (.int (p1 &&& (65535 : Int32))), .val (.int (((p6.toUInt32 >>> ((8 : Int32) &&& 31).toUInt32).toInt32) &&& (255 : Int32))), .val (.int ((p6 &&& (2147483647 : Int32)) % (3 : Int32))), .val (.long (q4 &&& (4611686018427387903 : Int64))), .second, .val (.long (q5 &&& (4611686018427387903 : Int64))), .second, .unset, .unset, .unset, .unset, .unset, .unset, .unset, .unset, .unset] [(.long (q4 &&& (4611686018427387903 : Int64)))])) _
        refine XS.lload X0.here hx rfl (hb hby at_64) rfl ?_
        show Steps p.tables e below (s₁.setTop (mkF m 66 #[.val (.int p1), .val (.int p2), .val (.long q3), .second, .val (.long q4), .second, .val (.long q5), .second, .val (.int p6), .val (.int (p1 &&& (65535 : Int32))), .val (.int (((p6.toUInt32 >>> ((8 : Int32) &&& 31).toUInt32).toInt32) &&& (255 : Int32))), .val (.int ((p6 &&& (2147483647 : Int32)) % (3 : Int32))), .val (.long (q4 &&& (4611686018427387903 : Int64))), .second, .val (.long (q5 &&& (4611686018427387903 : Int64))), .second, .unset, .unset, .unset, .unset, .unset, .unset, .unset, .unset, .unset] [(.long (q5 &&& (4611686018427387903 : Int64))), (.long (q4 &&& (4611686018427387903 : Int64)))])) _
        refine XS.ladd X0.here hx rfl (hb hby at_66) rfl ?_
        exact k
  obtain ⟨T5, h5, X5, e5, E5, A5, D5, -, st5⟩ := newO X0 hx hZ hown (hw _ (List.mem_of_getElem? (i := 3) rfl)) (hw _ (List.mem_of_getElem? (i := 4) rfl)) (hw _ (List.mem_of_getElem? (i := 5) rfl)) e0 (g := (mkF m 69 #[.val (.int p1), .val (.int p2), .val (.long q3), .second, .val (.long q4), .second, .val (.long q5), .second, .val (.int p6), .val (.int (p1 &&& (65535 : Int32))), .val (.int (((p6.toUInt32 >>> ((8 : Int32) &&& 31).toUInt32).toInt32) &&& (255 : Int32))), .val (.int ((p6 &&& (2147483647 : Int32)) % (3 : Int32))), .val (.long (q4 &&& (4611686018427387903 : Int64))), .second, .val (.long (q5 &&& (4611686018427387903 : Int64))), .second, .val (.long w16), .second, .unset, .unset, .unset, .unset, .unset, .unset, .unset] [])) rfl (hb hby at_69) (by decide) (by decide)
  obtain ⟨b5, g5⟩ : ∃ z, z = h0.size := ⟨_, rfl⟩
  rw [← g5] at A5 D5 st5
  have g_b5 : n0 ≤ b5 := Nat.le_trans Z0 (Nat.le_of_eq g5.symm)
  have Z5 : n0 ≤ h5.size := Nat.le_trans Z0 E5.1
  have E_b5 : Exa Z h5 b5 "com/example/leafcutter/leafcutter/LeaseRoom" := A5
  have F_mCapacity_b5 : Fld Z h5 b5 "com/example/leafcutter/leafcutter/LeaseRoom" "mCapacity" "I" (.int (0 : Int32)) := D5 (Or.inr (hw _ (List.mem_of_getElem? (i := 13) rfl))) (ty := .int) (by decide)
  have F_mFreeResults_b5 : Fld Z h5 b5 "com/example/leafcutter/leafcutter/LeaseRoom" "mFreeResults" "I" (.int (0 : Int32)) := D5 (Or.inr (hw _ (List.mem_of_getElem? (i := 15) rfl))) (ty := .int) (by decide)
  have F_mFreeOutputBytes_b5 : Fld Z h5 b5 "com/example/leafcutter/leafcutter/LeaseRoom" "mFreeOutputBytes" "J" (.long (0 : Int64)) := D5 (Or.inr (hw _ (List.mem_of_getElem? (i := 17) rfl))) (ty := .long) (by decide)
  have F_mUnfinished_b5 : Fld Z h5 b5 "com/example/leafcutter/leafcutter/LeaseRoom" "mUnfinished" "I" (.int (0 : Int32)) := D5 (Or.inl (hw _ (List.mem_of_getElem? (i := 24) rfl))) (ty := .int) (by decide)
  have F_mUnposted_b5 : Fld Z h5 b5 "com/example/leafcutter/leafcutter/LeaseRoom" "mUnposted" "I" (.int (0 : Int32)) := D5 (Or.inl (hw _ (List.mem_of_getElem? (i := 36) rfl))) (ty := .int) (by decide)
  have F_mUnpostedBytes_b5 : Fld Z h5 b5 "com/example/leafcutter/leafcutter/LeaseRoom" "mUnpostedBytes" "J" (.long (0 : Int64)) := D5 (Or.inl (hw _ (List.mem_of_getElem? (i := 38) rfl))) (ty := .long) (by decide)
  obtain ⟨_, _, ⟨T6, L6, k6, n6⟩, -, X6, ⟨Lc6, hQ6, l6, y6, z6⟩, st6⟩ := X5.specialBack hx (y := (⟨"com/example/leafcutter/leafcutter/LeaseRoom", "<init>", "(IIJ)V"⟩ : MethodName)) rfl hown (mvT hZ (hw _ (List.mem_of_getElem? (i := 6) rfl))) (mvT hZ (hw _ (List.mem_of_getElem? (i := 7) rfl))) (mvT hZ (hw _ (List.mem_of_getElem? (i := 8) rfl))) (by decide) (backOf (W := 1) (rm1 l Z a0 hw [] b5 (p1 &&& (65535 : Int32)) p2 q3 ((.int (0 : Int32))) ((.int (0 : Int32))) ((.long (0 : Int64))) ((0 : Int32)) ((0 : Int32)) ((0 : Int64)) h5 n0 Z5 E_b5 F_mCapacity_b5 F_mFreeResults_b5 F_mFreeOutputBytes_b5 F_mUnfinished_b5 F_mUnposted_b5 F_mUnpostedBytes_b5 g_b5) hZ (hw _ (List.mem_of_getElem? (i := 8) rfl)) (hw _ (List.mem_of_getElem? (i := 5) rfl)) (by decide) (by decide)) (g := (mkF m 77 #[.val (.int p1), .val (.int p2), .val (.long q3), .second, .val (.long q4), .second, .val (.long q5), .second, .val (.int p6), .val (.int (p1 &&& (65535 : Int32))), .val (.int (((p6.toUInt32 >>> ((8 : Int32) &&& 31).toUInt32).toInt32) &&& (255 : Int32))), .val (.int ((p6 &&& (2147483647 : Int32)) % (3 : Int32))), .val (.long (q4 &&& (4611686018427387903 : Int64))), .second, .val (.long (q5 &&& (4611686018427387903 : Int64))), .second, .val (.long w16), .second, .unset, .unset, .unset, .unset, .unset, .unset, .unset] [(.long q3), (.int p2), (.int (p1 &&& (65535 : Int32))), (.ref b5), (.ref b5)])) rfl (by rw [hml]; rfl) (Steps.refl _) (a := b5) (argsL := [(.int (p1 &&& (65535 : Int32))), (.int p2), (.long q3)]) (rest := [(.ref b5)]) (lenOf own_pd2 rfl) rfl (by show 2 * 0 + _ ≤ _; exact Nat.le_of_eq rfl) (hb hby at_77) (fun _ _ => ⟨rfl, e5, (by decide : 1 + 0 ≤ _), (by decide : 6 + 0 ≤ _)⟩)
  dsimp only [Pt.U, Pt.locs, Pt.cells, Pt.slots] at X6 l6 y6 z6 st6 hQ6
  subst l6 y6 z6
  obtain ⟨rfl, N6q, Kq6, P6_0, P6_1, P6_2, P6_3, P6_4, P6_5, P6_6⟩ := hQ6
  have N6 := Fr.app N0 N6q
  have E_b5 := P6_0
  have F_mCapacity_b5 := P6_1
  have F_mFreeResults_b5 := P6_2
  have F_mFreeOutputBytes_b5 := P6_3
  have F_mUnfinished_b5 := P6_4
  have F_mUnposted_b5 := P6_5
  have F_mUnpostedBytes_b5 := P6_6
  have Z6 : n0 ≤ T6.heap.size := Nat.le_trans Z5 Kq6.1
  obtain ⟨cq7, kq7, q7a, q7b, q7c⟩ := isOf hZ rfl E_b5
  obtain ⟨_, _, ⟨T7, L7, k7, n7⟩, -, X7, ⟨Lc7, hQ7, l7, y7, z7⟩, st7⟩ := X6.virtualBack hx (y := (⟨"com/example/leafcutter/leafcutter/LeaseRoom", "ask", "(I)V"⟩ : MethodName)) (z := (⟨"com/example/leafcutter/leafcutter/LeaseRoom", "ask", "(I)V"⟩ : MethodName)) hown (mvT hZ (hw _ (List.mem_of_getElem? (i := 18) rfl))) (mvT hZ (hw _ (List.mem_of_getElem? (i := 19) rfl))) (notFace_of_selects (args := #[]) (mvT hZ (hw _ (List.mem_of_getElem? (i := 21) rfl)))) (mvT hZ (hw _ (List.mem_of_getElem? (i := 21) rfl))) (mvT hZ (hw _ (List.mem_of_getElem? (i := 20) rfl))) (by decide) (backOf (W := 0) (rm3 l Z a0 hw [] b5 ((((p6.toUInt32 >>> ((8 : Int32) &&& 31).toUInt32).toInt32) &&& (255 : Int32)) + (2 : Int32)) ((p1 &&& (65535 : Int32))) p2 q3 ((0 : Int32)) ((0 : Int32)) ((0 : Int64)) T6.heap n0 Z6 E_b5 F_mCapacity_b5 F_mFreeResults_b5 F_mFreeOutputBytes_b5 F_mUnfinished_b5 F_mUnposted_b5 F_mUnpostedBytes_b5 g_b5) hZ (hw _ (List.mem_of_getElem? (i := 22) rfl)) (hw _ (List.mem_of_getElem? (i := 5) rfl)) (by decide) (by decide)) q7a q7c (g := (mkF m 88 #[.val (.int p1), .val (.int p2), .val (.long q3), .second, .val (.long q4), .second, .val (.long q5), .second, .val (.int p6), .val (.int (p1 &&& (65535 : Int32))), .val (.int (((p6.toUInt32 >>> ((8 : Int32) &&& 31).toUInt32).toInt32) &&& (255 : Int32))), .val (.int ((p6 &&& (2147483647 : Int32)) % (3 : Int32))), .val (.long (q4 &&& (4611686018427387903 : Int64))), .second, .val (.long (q5 &&& (4611686018427387903 : Int64))), .second, .val (.long w16), .second, .val (.ref b5), .unset, .unset, .unset, .unset, .unset, .unset] [(.int ((((p6.toUInt32 >>> ((8 : Int32) &&& 31).toUInt32).toInt32) &&& (255 : Int32)) + (2 : Int32))), (.ref b5)])) rfl (by rw [hml]; rfl) (Steps.refl _) (argsL := [(.int ((((p6.toUInt32 >>> ((8 : Int32) &&& 31).toUInt32).toInt32) &&& (255 : Int32)) + (2 : Int32)))]) (rest := []) (lenOf own_pd3 rfl) rfl (by show 2 * 0 + _ ≤ _; exact Nat.le_of_eq rfl) (hb hby at_88) (fun _ _ => ⟨rfl, rfl, (by decide : 1 + 0 ≤ _), (by decide : 6 + 0 ≤ _)⟩)
  dsimp only [Pt.U, Pt.locs, Pt.cells, Pt.slots] at X7 l7 y7 z7 st7 hQ7
  subst l7 y7 z7
  obtain ⟨rfl, N7q, Kq7, P7_0, P7_1, P7_2, P7_3, P7_4, P7_5, P7_6⟩ := hQ7
  have N7 := Fr.app N6 N7q
  have E_b5 := P7_0
  have F_mCapacity_b5 := P7_1
  have F_mFreeResults_b5 := P7_2
  have F_mFreeOutputBytes_b5 := P7_3
  have F_mUnfinished_b5 := P7_4
  have F_mUnposted_b5 := P7_5
  have F_mUnpostedBytes_b5 := P7_6
  have Z7 : n0 ≤ T7.heap.size := Nat.le_trans Z6 Kq7.1
  obtain ⟨cq8, kq8, q8a, q8b, q8c⟩ := isOf hZ rfl E_b5
  obtain ⟨_, _, ⟨T8, L8, k8, n8⟩, -, X8, ⟨Lc8, hQ8, l8, y8, z8⟩, st8⟩ := X7.virtualBack hx (y := (⟨"com/example/leafcutter/leafcutter/LeaseRoom", "finish", "(J)Z"⟩ : MethodName)) (z := (⟨"com/example/leafcutter/leafcutter/LeaseRoom", "finish", "(J)Z"⟩ : MethodName)) hown (mvT hZ (hw _ (List.mem_of_getElem? (i := 25) rfl))) (mvT hZ (hw _ (List.mem_of_getElem? (i := 26) rfl))) (notFace_of_selects (args := #[]) (mvT hZ (hw _ (List.mem_of_getElem? (i := 28) rfl)))) (mvT hZ (hw _ (List.mem_of_getElem? (i := 28) rfl))) (mvT hZ (hw _ (List.mem_of_getElem? (i := 27) rfl))) (by decide) (backOf (W := 0) (rm4 l Z a0 hw [] b5 (q4 &&& (4611686018427387903 : Int64)) ((p1 &&& (65535 : Int32))) p2 q3 (((0 : Int32) + ((((p6.toUInt32 >>> ((8 : Int32) &&& 31).toUInt32).toInt32) &&& (255 : Int32)) + (2 : Int32)))) ((0 : Int32)) ((0 : Int64)) T7.heap n0 Z7 E_b5 F_mCapacity_b5 F_mFreeResults_b5 F_mFreeOutputBytes_b5 F_mUnfinished_b5 F_mUnposted_b5 F_mUnpostedBytes_b5 g_b5) hZ (hw _ (List.mem_of_getElem? (i := 29) rfl)) (hw _ (List.mem_of_getElem? (i := 5) rfl)) (by decide) (by decide)) q8a q8c (g := (mkF m 95 #[.val (.int p1), .val (.int p2), .val (.long q3), .second, .val (.long q4), .second, .val (.long q5), .second, .val (.int p6), .val (.int (p1 &&& (65535 : Int32))), .val (.int (((p6.toUInt32 >>> ((8 : Int32) &&& 31).toUInt32).toInt32) &&& (255 : Int32))), .val (.int ((p6 &&& (2147483647 : Int32)) % (3 : Int32))), .val (.long (q4 &&& (4611686018427387903 : Int64))), .second, .val (.long (q5 &&& (4611686018427387903 : Int64))), .second, .val (.long w16), .second, .val (.ref b5), .unset, .unset, .unset, .unset, .unset, .unset] [(.long (q4 &&& (4611686018427387903 : Int64))), (.ref b5)])) rfl (by rw [hml]; rfl) (Steps.refl _) (argsL := [(.long (q4 &&& (4611686018427387903 : Int64)))]) (rest := []) (lenOf own_pd4 rfl) rfl (by show 2 * 0 + _ ≤ _; exact Nat.le_of_eq rfl) (hb hby at_95) (fun _ _ => ⟨rfl, rfl, (by decide : 1 + 0 ≤ _), (by decide : 6 + 0 ≤ _)⟩)
  dsimp only [Pt.U, Pt.locs, Pt.cells, Pt.slots] at X8 l8 y8 z8 st8 hQ8
  subst l8 y8 z8
  obtain ⟨r8, rfl, hr8, N8q, Kq8, P8_0, P8_1, P8_2, P8_3, P8_4, P8_5, P8_6⟩ := hQ8
  have N8 := Fr.app N7 N8q
  have E_b5 := P8_0
  have F_mCapacity_b5 := P8_1
  have F_mFreeResults_b5 := P8_2
  have F_mFreeOutputBytes_b5 := P8_3
  have F_mUnfinished_b5 := P8_4
  have F_mUnposted_b5 := P8_5
  have F_mUnpostedBytes_b5 := P8_6
  have Z8 : n0 ≤ T8.heap.size := Nat.le_trans Z7 Kq8.1
  obtain ⟨cq9, kq9, q9a, q9b, q9c⟩ := isOf hZ rfl E_b5
  obtain ⟨_, _, ⟨T9, L9, k9, n9⟩, -, X9, ⟨Lc9, hQ9, l9, y9, z9⟩, st9⟩ := X8.virtualBack hx (y := (⟨"com/example/leafcutter/leafcutter/LeaseRoom", "finish", "(J)Z"⟩ : MethodName)) (z := (⟨"com/example/leafcutter/leafcutter/LeaseRoom", "finish", "(J)Z"⟩ : MethodName)) hown (mvT hZ (hw _ (List.mem_of_getElem? (i := 25) rfl))) (mvT hZ (hw _ (List.mem_of_getElem? (i := 26) rfl))) (notFace_of_selects (args := #[]) (mvT hZ (hw _ (List.mem_of_getElem? (i := 28) rfl)))) (mvT hZ (hw _ (List.mem_of_getElem? (i := 28) rfl))) (mvT hZ (hw _ (List.mem_of_getElem? (i := 27) rfl))) (by decide) (backOf (W := 0) (rm4 l Z a0 hw [] b5 (q5 &&& (4611686018427387903 : Int64)) ((p1 &&& (65535 : Int32))) p2 q3 ((((0 : Int32) + ((((p6.toUInt32 >>> ((8 : Int32) &&& 31).toUInt32).toInt32) &&& (255 : Int32)) + (2 : Int32))) - (1 : Int32))) (((0 : Int32) + (1 : Int32))) (((0 : Int64) + (q4 &&& (4611686018427387903 : Int64)))) T8.heap n0 Z8 E_b5 F_mCapacity_b5 F_mFreeResults_b5 F_mFreeOutputBytes_b5 F_mUnfinished_b5 F_mUnposted_b5 F_mUnpostedBytes_b5 g_b5) hZ (hw _ (List.mem_of_getElem? (i := 29) rfl)) (hw _ (List.mem_of_getElem? (i := 5) rfl)) (by decide) (by decide)) q9a q9c (g := (mkF m 103 #[.val (.int p1), .val (.int p2), .val (.long q3), .second, .val (.long q4), .second, .val (.long q5), .second, .val (.int p6), .val (.int (p1 &&& (65535 : Int32))), .val (.int (((p6.toUInt32 >>> ((8 : Int32) &&& 31).toUInt32).toInt32) &&& (255 : Int32))), .val (.int ((p6 &&& (2147483647 : Int32)) % (3 : Int32))), .val (.long (q4 &&& (4611686018427387903 : Int64))), .second, .val (.long (q5 &&& (4611686018427387903 : Int64))), .second, .val (.long w16), .second, .val (.ref b5), .unset, .unset, .unset, .unset, .unset, .unset] [(.long (q5 &&& (4611686018427387903 : Int64))), (.ref b5)])) rfl (by rw [hml]; rfl) (Steps.refl _) (argsL := [(.long (q5 &&& (4611686018427387903 : Int64)))]) (rest := []) (lenOf own_pd4 rfl) rfl (by show 2 * 0 + _ ≤ _; exact Nat.le_of_eq rfl) (hb hby at_103) (fun _ _ => ⟨rfl, rfl, (by decide : 1 + 0 ≤ _), (by decide : 6 + 0 ≤ _)⟩)
  dsimp only [Pt.U, Pt.locs, Pt.cells, Pt.slots] at X9 l9 y9 z9 st9 hQ9
  subst l9 y9 z9
  obtain ⟨r9, rfl, hr9, N9q, Kq9, P9_0, P9_1, P9_2, P9_3, P9_4, P9_5, P9_6⟩ := hQ9
  have N9 := Fr.app N8 N9q
  have E_b5 := P9_0
  have F_mCapacity_b5 := P9_1
  have F_mFreeResults_b5 := P9_2
  have F_mFreeOutputBytes_b5 := P9_3
  have F_mUnfinished_b5 := P9_4
  have F_mUnposted_b5 := P9_5
  have F_mUnpostedBytes_b5 := P9_6
  have Z9 : n0 ≤ T9.heap.size := Nat.le_trans Z8 Kq9.1
  obtain ⟨cq10, kq10, q10a, q10b, q10c⟩ := isOf hZ rfl E_b5
  obtain ⟨_, _, ⟨T10, L10, k10, n10⟩, -, X10, ⟨Lc10, hQ10, l10, y10, z10⟩, st10⟩ := X9.virtualBack hx (y := (⟨"com/example/leafcutter/leafcutter/LeaseRoom", "posted", "(IJ)V"⟩ : MethodName)) (z := (⟨"com/example/leafcutter/leafcutter/LeaseRoom", "posted", "(IJ)V"⟩ : MethodName)) hown (mvT hZ (hw _ (List.mem_of_getElem? (i := 43) rfl))) (mvT hZ (hw _ (List.mem_of_getElem? (i := 44) rfl))) (notFace_of_selects (args := #[]) (mvT hZ (hw _ (List.mem_of_getElem? (i := 46) rfl)))) (mvT hZ (hw _ (List.mem_of_getElem? (i := 46) rfl))) (mvT hZ (hw _ (List.mem_of_getElem? (i := 45) rfl))) (by decide) (backOf (W := 0) (rm7 l Z a0 hw [] b5 ((p6 &&& (2147483647 : Int32)) % (3 : Int32)) w16 ((p1 &&& (65535 : Int32))) p2 q3 (((((0 : Int32) + ((((p6.toUInt32 >>> ((8 : Int32) &&& 31).toUInt32).toInt32) &&& (255 : Int32)) + (2 : Int32))) - (1 : Int32)) - (1 : Int32))) ((((0 : Int32) + (1 : Int32)) + (1 : Int32))) ((((0 : Int64) + (q4 &&& (4611686018427387903 : Int64))) + (q5 &&& (4611686018427387903 : Int64)))) T9.heap n0 Z9 E_b5 F_mCapacity_b5 F_mFreeResults_b5 F_mFreeOutputBytes_b5 F_mUnfinished_b5 F_mUnposted_b5 F_mUnpostedBytes_b5 g_b5) hZ (hw _ (List.mem_of_getElem? (i := 47) rfl)) (hw _ (List.mem_of_getElem? (i := 5) rfl)) (by decide) (by decide)) q10a q10c (g := (mkF m 113 #[.val (.int p1), .val (.int p2), .val (.long q3), .second, .val (.long q4), .second, .val (.long q5), .second, .val (.int p6), .val (.int (p1 &&& (65535 : Int32))), .val (.int (((p6.toUInt32 >>> ((8 : Int32) &&& 31).toUInt32).toInt32) &&& (255 : Int32))), .val (.int ((p6 &&& (2147483647 : Int32)) % (3 : Int32))), .val (.long (q4 &&& (4611686018427387903 : Int64))), .second, .val (.long (q5 &&& (4611686018427387903 : Int64))), .second, .val (.long w16), .second, .val (.ref b5), .unset, .unset, .unset, .unset, .unset, .unset] [(.long w16), (.int ((p6 &&& (2147483647 : Int32)) % (3 : Int32))), (.ref b5)])) rfl (by rw [hml]; rfl) (Steps.refl _) (argsL := [(.int ((p6 &&& (2147483647 : Int32)) % (3 : Int32))), (.long w16)]) (rest := []) (lenOf own_pd5 rfl) rfl (by show 2 * 0 + _ ≤ _; exact Nat.le_of_eq rfl) (hb hby at_113) (fun _ _ => ⟨rfl, rfl, (by decide : 1 + 0 ≤ _), (by decide : 6 + 0 ≤ _)⟩)
  dsimp only [Pt.U, Pt.locs, Pt.cells, Pt.slots] at X10 l10 y10 z10 st10 hQ10
  subst l10 y10 z10
  obtain ⟨rfl, N10q, Kq10, P10_0, P10_1, P10_2, P10_3, P10_4, P10_5, P10_6⟩ := hQ10
  have N10 := Fr.app N9 N10q
  have E_b5 := P10_0
  have F_mCapacity_b5 := P10_1
  have F_mFreeResults_b5 := P10_2
  have F_mFreeOutputBytes_b5 := P10_3
  have F_mUnfinished_b5 := P10_4
  have F_mUnposted_b5 := P10_5
  have F_mUnpostedBytes_b5 := P10_6
  have Z10 : n0 ≤ T10.heap.size := Nat.le_trans Z9 Kq10.1
  have pre11 : ∀ t, Steps p.tables e below (T10.setTop (mkF m 132 #[.val (.int p1), .val (.int p2), .val (.long q3), .second, .val (.long q4), .second, .val (.long q5), .second, .val (.int p6), .val (.int (p1 &&& (65535 : Int32))), .val (.int (((p6.toUInt32 >>> ((8 : Int32) &&& 31).toUInt32).toInt32) &&& (255 : Int32))), .val (.int ((p6 &&& (2147483647 : Int32)) % (3 : Int32))), .val (.long (q4 &&& (4611686018427387903 : Int64))), .second, .val (.long (q5 &&& (4611686018427387903 : Int64))), .second, .val (.long w16), .second, .val (.ref b5), .val (.int ((2 : Int32) - ((p6 &&& (2147483647 : Int32)) % (3 : Int32)))), .val (.long (((q4 &&& (4611686018427387903 : Int64)) + (q5 &&& (4611686018427387903 : Int64))) - w16)), .second, .unset, .unset, .unset] [])) t → Steps p.tables e below (s₁.setTop (entryFrame m #[(.int p1), (.int p2), (.long q3), (.long q4), (.long q5), (.int p6)] maxLocals)) t := by
    intro t k
    refine pre2 _ ?_
    show Steps p.tables e below (s₁.setTop (mkF m 67 #[.val (.int p1), .val (.int p2), .val (.long q3), .second, .val (.long q4), .second, .val (.long q5), .second, .val (.int p6), .val (.int (p1 &&& (65535 : Int32))), .val (.int (((p6.toUInt32 >>> ((8 : Int32) &&& 31).toUInt32).toInt32) &&& (255 : Int32))), .val (.int ((p6 &&& (2147483647 : Int32)) % (3 : Int32))), .val (.long (q4 &&& (4611686018427387903 : Int64))), .second, .val (.long (q5 &&& (4611686018427387903 : Int64))), .second, .unset, .unset, .unset, .unset, .unset, .unset, .unset, .unset, .unset] [(.long w16)])) _
    refine XS.lstore X0.here hx rfl (hb hby at_67) rfl (l' := #[.val (.int p1), .val (.int p2), .val (.long q3), .second, .val (.long q4), .second, .val (.long q5), .second, .val (.int p6), .val (.int (p1 &&& (65535 : Int32))), .val (.int (((p6.toUInt32 >>> ((8 : Int32) &&& 31).toUInt32).toInt32) &&& (255 : Int32))), .val (.int ((p6 &&& (2147483647 : Int32)) % (3 : Int32))), .val (.long (q4 &&& (4611686018427387903 : Int64))), .second, .val (.long (q5 &&& (4611686018427387903 : Int64))), .second, .val (.long w16), .second, .unset, .unset, .unset, .unset, .unset, .unset, .unset]) rfl ?_
    show Steps p.tables e below (s₁.setTop (mkF m 69 #[.val (.int p1), .val (.int p2), .val (.long q3), .second, .val (.long q4), .second, .val (.long q5), .second, .val (.int p6), .val (.int (p1 &&& (65535 : Int32))), .val (.int (((p6.toUInt32 >>> ((8 : Int32) &&& 31).toUInt32).toInt32) &&& (255 : Int32))), .val (.int ((p6 &&& (2147483647 : Int32)) % (3 : Int32))), .val (.long (q4 &&& (4611686018427387903 : Int64))), .second, .val (.long (q5 &&& (4611686018427387903 : Int64))), .second, .val (.long w16), .second, .unset, .unset, .unset, .unset, .unset, .unset, .unset] [])) _
    refine st5 _ ?_
    show Steps p.tables e below (T5.setTop (mkF m 72 #[.val (.int p1), .val (.int p2), .val (.long q3), .second, .val (.long q4), .second, .val (.long q5), .second, .val (.int p6), .val (.int (p1 &&& (65535 : Int32))), .val (.int (((p6.toUInt32 >>> ((8 : Int32) &&& 31).toUInt32).toInt32) &&& (255 : Int32))), .val (.int ((p6 &&& (2147483647 : Int32)) % (3 : Int32))), .val (.long (q4 &&& (4611686018427387903 : Int64))), .second, .val (.long (q5 &&& (4611686018427387903 : Int64))), .second, .val (.long w16), .second, .unset, .unset, .unset, .unset, .unset, .unset, .unset] [(.ref b5)])) _
    refine XS.dup X5.here hx rfl (hb hby at_72) rfl rfl ?_
    show Steps p.tables e below (T5.setTop (mkF m 73 #[.val (.int p1), .val (.int p2), .val (.long q3), .second, .val (.long q4), .second, .val (.long q5), .second, .val (.int p6), .val (.int (p1 &&& (65535 : Int32))), .val (.int (((p6.toUInt32 >>> ((8 : Int32) &&& 31).toUInt32).toInt32) &&& (255 : Int32))), .val (.int ((p6 &&& (2147483647 : Int32)) % (3 : Int32))), .val (.long (q4 &&& (4611686018427387903 : Int64))), .second, .val (.long (q5 &&& (4611686018427387903 : Int64))), .second, .val (.long w16), .second, .unset, .unset, .unset, .unset, .unset, .unset, .unset] [(.ref b5), (.ref b5)])) _
    refine XS.iload X5.here hx rfl (hb hby at_73) rfl ?_
    show Steps p.tables e below (T5.setTop (mkF m 75 #[.val (.int p1), .val (.int p2), .val (.long q3), .second, .val (.long q4), .second, .val (.long q5), .second, .val (.int p6), .val (.int (p1 &&& (65535 : Int32))), .val (.int (((p6.toUInt32 >>> ((8 : Int32) &&& 31).toUInt32).toInt32) &&& (255 : Int32))), .val (.int ((p6 &&& (2147483647 : Int32)) % (3 : Int32))), .val (.long (q4 &&& (4611686018427387903 : Int64))), .second, .val (.long (q5 &&& (4611686018427387903 : Int64))), .second, .val (.long w16), .second, .unset, .unset, .unset, .unset, .unset, .unset, .unset] [(.int (p1 &&& (65535 : Int32))), (.ref b5), (.ref b5)])) _
    refine XS.iloadN X5.here hx rfl (hb hby at_75) rfl ?_
    show Steps p.tables e below (T5.setTop (mkF m 76 #[.val (.int p1), .val (.int p2), .val (.long q3), .second, .val (.long q4), .second, .val (.long q5), .second, .val (.int p6), .val (.int (p1 &&& (65535 : Int32))), .val (.int (((p6.toUInt32 >>> ((8 : Int32) &&& 31).toUInt32).toInt32) &&& (255 : Int32))), .val (.int ((p6 &&& (2147483647 : Int32)) % (3 : Int32))), .val (.long (q4 &&& (4611686018427387903 : Int64))), .second, .val (.long (q5 &&& (4611686018427387903 : Int64))), .second, .val (.long w16), .second, .unset, .unset, .unset, .unset, .unset, .unset, .unset] [(.int p2), (.int (p1 &&& (65535 : Int32))), (.ref b5), (.ref b5)])) _
    refine XS.lloadN X5.here hx rfl (hb hby at_76) rfl ?_
    show Steps p.tables e below (T5.setTop (mkF m 77 #[.val (.int p1), .val (.int p2), .val (.long q3), .second, .val (.long q4), .second, .val (.long q5), .second, .val (.int p6), .val (.int (p1 &&& (65535 : Int32))), .val (.int (((p6.toUInt32 >>> ((8 : Int32) &&& 31).toUInt32).toInt32) &&& (255 : Int32))), .val (.int ((p6 &&& (2147483647 : Int32)) % (3 : Int32))), .val (.long (q4 &&& (4611686018427387903 : Int64))), .second, .val (.long (q5 &&& (4611686018427387903 : Int64))), .second, .val (.long w16), .second, .unset, .unset, .unset, .unset, .unset, .unset, .unset] [(.long q3), (.int p2), (.int (p1 &&& (65535 : Int32))), (.ref b5), (.ref b5)])) _
    refine st6.trans ?_
    show Steps p.tables e below (T6.setTop (mkF m 80 #[.val (.int p1), .val (.int p2), .val (.long q3), .second, .val (.long q4), .second, .val (.long q5), .second, .val (.int p6), .val (.int (p1 &&& (65535 : Int32))), .val (.int (((p6.toUInt32 >>> ((8 : Int32) &&& 31).toUInt32).toInt32) &&& (255 : Int32))), .val (.int ((p6 &&& (2147483647 : Int32)) % (3 : Int32))), .val (.long (q4 &&& (4611686018427387903 : Int64))), .second, .val (.long (q5 &&& (4611686018427387903 : Int64))), .second, .val (.long w16), .second, .unset, .unset, .unset, .unset, .unset, .unset, .unset] [(.ref b5)])) _
    refine XS.astore X6.here hx rfl (hb hby at_80) rfl rfl (l' := #[.val (.int p1), .val (.int p2), .val (.long q3), .second, .val (.long q4), .second, .val (.long q5), .second, .val (.int p6), .val (.int (p1 &&& (65535 : Int32))), .val (.int (((p6.toUInt32 >>> ((8 : Int32) &&& 31).toUInt32).toInt32) &&& (255 : Int32))), .val (.int ((p6 &&& (2147483647 : Int32)) % (3 : Int32))), .val (.long (q4 &&& (4611686018427387903 : Int64))), .second, .val (.long (q5 &&& (4611686018427387903 : Int64))), .second, .val (.long w16), .second, .val (.ref b5), .unset, .unset, .unset, .unset, .unset, .unset]) rfl ?_
    show Steps p.tables e below (T6.setTop (mkF m 82 #[.val (.int p1), .val (.int p2), .val (.long q3), .second, .val (.long q4), .second, .val (.long q5), .second, .val (.int p6), .val (.int (p1 &&& (65535 : Int32))), .val (.int (((p6.toUInt32 >>> ((8 : Int32) &&& 31).toUInt32).toInt32) &&& (255 : Int32))), .val (.int ((p6 &&& (2147483647 : Int32)) % (3 : Int32))), .val (.long (q4 &&& (4611686018427387903 : Int64))), .second, .val (.long (q5 &&& (4611686018427387903 : Int64))), .second, .val (.long w16), .second, .val (.ref b5), .unset, .unset, .unset, .unset, .unset, .unset] [])) _
    refine XS.aload X6.here hx rfl (hb hby at_82) rfl rfl ?_
    show Steps p.tables e below (T6.setTop (mkF m 84 #[.val (.int p1), .val (.int p2), .val (.long q3), .second, .val (.long q4), .second, .val (.long q5), .second, .val (.int p6), .val (.int (p1 &&& (65535 : Int32))), .val (.int (((p6.toUInt32 >>> ((8 : Int32) &&& 31).toUInt32).toInt32) &&& (255 : Int32))), .val (.int ((p6 &&& (2147483647 : Int32)) % (3 : Int32))), .val (.long (q4 &&& (4611686018427387903 : Int64))), .second, .val (.long (q5 &&& (4611686018427387903 : Int64))), .second, .val (.long w16), .second, .val (.ref b5), .unset, .unset, .unset, .unset, .unset, .unset] [(.ref b5)])) _
    refine XS.iload X6.here hx rfl (hb hby at_84) rfl ?_
    show Steps p.tables e below (T6.setTop (mkF m 86 #[.val (.int p1), .val (.int p2), .val (.long q3), .second, .val (.long q4), .second, .val (.long q5), .second, .val (.int p6), .val (.int (p1 &&& (65535 : Int32))), .val (.int (((p6.toUInt32 >>> ((8 : Int32) &&& 31).toUInt32).toInt32) &&& (255 : Int32))), .val (.int ((p6 &&& (2147483647 : Int32)) % (3 : Int32))), .val (.long (q4 &&& (4611686018427387903 : Int64))), .second, .val (.long (q5 &&& (4611686018427387903 : Int64))), .second, .val (.long w16), .second, .val (.ref b5), .unset, .unset, .unset, .unset, .unset, .unset] [(.int (((p6.toUInt32 >>> ((8 : Int32) &&& 31).toUInt32).toInt32) &&& (255 : Int32))), (.ref b5)])) _
    refine XS.iconst X6.here hx rfl (hb hby at_86) ?_
    show Steps p.tables e below (T6.setTop (mkF m 87 #[.val (.int p1), .val (.int p2), .val (.long q3), .second, .val (.long q4), .second, .val (.long q5), .second, .val (.int p6), .val (.int (p1 &&& (65535 : Int32))), .val (.int (((p6.toUInt32 >>> ((8 : Int32) &&& 31).toUInt32).toInt32) &&& (255 : Int32))), .val (.int ((p6 &&& (2147483647 : Int32)) % (3 : Int32))), .val (.long (q4 &&& (4611686018427387903 : Int64))), .second, .val (.long (q5 &&& (4611686018427387903 : Int64))), .second, .val (.long w16), .second, .val (.ref b5), .unset, .unset, .unset, .unset, .unset, .unset] [(.int (2 : Int32)), (.int (((p6.toUInt32 >>> ((8 : Int32) &&& 31).toUInt32).toInt32) &&& (255 : Int32))), (.ref b5)])) _
    refine XS.iadd X6.here hx rfl (hb hby at_87) rfl ?_
    show Steps p.tables e below (T6.setTop (mkF m 88 #[.val (.int p1), .val (.int p2), .val (.long q3), .second, .val (.long q4), .second, .val (.long q5), .second, .val (.int p6), .val (.int (p1 &&& (65535 : Int32))), .val (.int (((p6.toUInt32 >>> ((8 : Int32) &&& 31).toUInt32).toInt32) &&& (255 : Int32))), .val (.int ((p6 &&& (2147483647 : Int32)) % (3 : Int32))), .val (.long (q4 &&& (4611686018427387903 : Int64))), .second, .val (.long (q5 &&& (4611686018427387903 : Int64))), .second, .val (.long w16), .second, .val (.ref b5), .unset, .unset, .unset, .unset, .unset, .unset] [(.int ((((p6.toUInt32 >>> ((8 : Int32) &&& 31).toUInt32).toInt32) &&& (255 : Int32)) + (2 : Int32))), (.ref b5)])) _
    refine st7.trans ?_
    show Steps p.tables e below (T7.setTop (mkF m 91 #[.val (.int p1), .val (.int p2), .val (.long q3), .second, .val (.long q4), .second, .val (.long q5), .second, .val (.int p6), .val (.int (p1 &&& (65535 : Int32))), .val (.int (((p6.toUInt32 >>> ((8 : Int32) &&& 31).toUInt32).toInt32) &&& (255 : Int32))), .val (.int ((p6 &&& (2147483647 : Int32)) % (3 : Int32))), .val (.long (q4 &&& (4611686018427387903 : Int64))), .second, .val (.long (q5 &&& (4611686018427387903 : Int64))), .second, .val (.long w16), .second, .val (.ref b5), .unset, .unset, .unset, .unset, .unset, .unset] [])) _
    refine XS.aload X7.here hx rfl (hb hby at_91) rfl rfl ?_
    show Steps p.tables e below (T7.setTop (mkF m 93 #[.val (.int p1), .val (.int p2), .val (.long q3), .second, .val (.long q4), .second, .val (.long q5), .second, .val (.int p6), .val (.int (p1 &&& (65535 : Int32))), .val (.int (((p6.toUInt32 >>> ((8 : Int32) &&& 31).toUInt32).toInt32) &&& (255 : Int32))), .val (.int ((p6 &&& (2147483647 : Int32)) % (3 : Int32))), .val (.long (q4 &&& (4611686018427387903 : Int64))), .second, .val (.long (q5 &&& (4611686018427387903 : Int64))), .second, .val (.long w16), .second, .val (.ref b5), .unset, .unset, .unset, .unset, .unset, .unset] [(.ref b5)])) _
    refine XS.lload X7.here hx rfl (hb hby at_93) rfl ?_
    show Steps p.tables e below (T7.setTop (mkF m 95 #[.val (.int p1), .val (.int p2), .val (.long q3), .second, .val (.long q4), .second, .val (.long q5), .second, .val (.int p6), .val (.int (p1 &&& (65535 : Int32))), .val (.int (((p6.toUInt32 >>> ((8 : Int32) &&& 31).toUInt32).toInt32) &&& (255 : Int32))), .val (.int ((p6 &&& (2147483647 : Int32)) % (3 : Int32))), .val (.long (q4 &&& (4611686018427387903 : Int64))), .second, .val (.long (q5 &&& (4611686018427387903 : Int64))), .second, .val (.long w16), .second, .val (.ref b5), .unset, .unset, .unset, .unset, .unset, .unset] [(.long (q4 &&& (4611686018427387903 : Int64))), (.ref b5)])) _
    refine st8.trans ?_
    show Steps p.tables e below (T8.setTop (mkF m 98 #[.val (.int p1), .val (.int p2), .val (.long q3), .second, .val (.long q4), .second, .val (.long q5), .second, .val (.int p6), .val (.int (p1 &&& (65535 : Int32))), .val (.int (((p6.toUInt32 >>> ((8 : Int32) &&& 31).toUInt32).toInt32) &&& (255 : Int32))), .val (.int ((p6 &&& (2147483647 : Int32)) % (3 : Int32))), .val (.long (q4 &&& (4611686018427387903 : Int64))), .second, .val (.long (q5 &&& (4611686018427387903 : Int64))), .second, .val (.long w16), .second, .val (.ref b5), .unset, .unset, .unset, .unset, .unset, .unset] [(.int r8)])) _
    refine XS.pop X8.here hx rfl (hb hby at_98) rfl rfl ?_
    show Steps p.tables e below (T8.setTop (mkF m 99 #[.val (.int p1), .val (.int p2), .val (.long q3), .second, .val (.long q4), .second, .val (.long q5), .second, .val (.int p6), .val (.int (p1 &&& (65535 : Int32))), .val (.int (((p6.toUInt32 >>> ((8 : Int32) &&& 31).toUInt32).toInt32) &&& (255 : Int32))), .val (.int ((p6 &&& (2147483647 : Int32)) % (3 : Int32))), .val (.long (q4 &&& (4611686018427387903 : Int64))), .second, .val (.long (q5 &&& (4611686018427387903 : Int64))), .second, .val (.long w16), .second, .val (.ref b5), .unset, .unset, .unset, .unset, .unset, .unset] [])) _
    refine XS.aload X8.here hx rfl (hb hby at_99) rfl rfl ?_
    show Steps p.tables e below (T8.setTop (mkF m 101 #[.val (.int p1), .val (.int p2), .val (.long q3), .second, .val (.long q4), .second, .val (.long q5), .second, .val (.int p6), .val (.int (p1 &&& (65535 : Int32))), .val (.int (((p6.toUInt32 >>> ((8 : Int32) &&& 31).toUInt32).toInt32) &&& (255 : Int32))), .val (.int ((p6 &&& (2147483647 : Int32)) % (3 : Int32))), .val (.long (q4 &&& (4611686018427387903 : Int64))), .second, .val (.long (q5 &&& (4611686018427387903 : Int64))), .second, .val (.long w16), .second, .val (.ref b5), .unset, .unset, .unset, .unset, .unset, .unset] [(.ref b5)])) _
    refine XS.lload X8.here hx rfl (hb hby at_101) rfl ?_
    show Steps p.tables e below (T8.setTop (mkF m 103 #[.val (.int p1), .val (.int p2), .val (.long q3), .second, .val (.long q4), .second, .val (.long q5), .second, .val (.int p6), .val (.int (p1 &&& (65535 : Int32))), .val (.int (((p6.toUInt32 >>> ((8 : Int32) &&& 31).toUInt32).toInt32) &&& (255 : Int32))), .val (.int ((p6 &&& (2147483647 : Int32)) % (3 : Int32))), .val (.long (q4 &&& (4611686018427387903 : Int64))), .second, .val (.long (q5 &&& (4611686018427387903 : Int64))), .second, .val (.long w16), .second, .val (.ref b5), .unset, .unset, .unset, .unset, .unset, .unset] [(.long (q5 &&& (4611686018427387903 : Int64))), (.ref b5)])) _
    refine st9.trans ?_
    show Steps p.tables e below (T9.setTop (mkF m 106 #[.val (.int p1), .val (.int p2), .val (.long q3), .second, .val (.long q4), .second, .val (.long q5), .second, .val (.int p6), .val (.int (p1 &&& (65535 : Int32))), .val (.int (((p6.toUInt32 >>> ((8 : Int32) &&& 31).toUInt32).toInt32) &&& (255 : Int32))), .val (.int ((p6 &&& (2147483647 : Int32)) % (3 : Int32))), .val (.long (q4 &&& (4611686018427387903 : Int64))), .second, .val (.long (q5 &&& (4611686018427387903 : Int64))), .second, .val (.long w16), .second, .val (.ref b5), .unset, .unset, .unset, .unset, .unset, .unset] [(.int r9)])) _
    refine XS.pop X9.here hx rfl (hb hby at_106) rfl rfl ?_
    show Steps p.tables e below (T9.setTop (mkF m 107 #[.val (.int p1), .val (.int p2), .val (.long q3), .second, .val (.long q4), .second, .val (.long q5), .second, .val (.int p6), .val (.int (p1 &&& (65535 : Int32))), .val (.int (((p6.toUInt32 >>> ((8 : Int32) &&& 31).toUInt32).toInt32) &&& (255 : Int32))), .val (.int ((p6 &&& (2147483647 : Int32)) % (3 : Int32))), .val (.long (q4 &&& (4611686018427387903 : Int64))), .second, .val (.long (q5 &&& (4611686018427387903 : Int64))), .second, .val (.long w16), .second, .val (.ref b5), .unset, .unset, .unset, .unset, .unset, .unset] [])) _
    refine XS.aload X9.here hx rfl (hb hby at_107) rfl rfl ?_
    show Steps p.tables e below (T9.setTop (mkF m 109 #[.val (.int p1), .val (.int p2), .val (.long q3), .second, .val (.long q4), .second, .val (.long q5), .second, .val (.int p6), .val (.int (p1 &&& (65535 : Int32))), .val (.int (((p6.toUInt32 >>> ((8 : Int32) &&& 31).toUInt32).toInt32) &&& (255 : Int32))), .val (.int ((p6 &&& (2147483647 : Int32)) % (3 : Int32))), .val (.long (q4 &&& (4611686018427387903 : Int64))), .second, .val (.long (q5 &&& (4611686018427387903 : Int64))), .second, .val (.long w16), .second, .val (.ref b5), .unset, .unset, .unset, .unset, .unset, .unset] [(.ref b5)])) _
    refine XS.iload X9.here hx rfl (hb hby at_109) rfl ?_
    show Steps p.tables e below (T9.setTop (mkF m 111 #[.val (.int p1), .val (.int p2), .val (.long q3), .second, .val (.long q4), .second, .val (.long q5), .second, .val (.int p6), .val (.int (p1 &&& (65535 : Int32))), .val (.int (((p6.toUInt32 >>> ((8 : Int32) &&& 31).toUInt32).toInt32) &&& (255 : Int32))), .val (.int ((p6 &&& (2147483647 : Int32)) % (3 : Int32))), .val (.long (q4 &&& (4611686018427387903 : Int64))), .second, .val (.long (q5 &&& (4611686018427387903 : Int64))), .second, .val (.long w16), .second, .val (.ref b5), .unset, .unset, .unset, .unset, .unset, .unset] [(.int ((p6 &&& (2147483647 : Int32)) % (3 : Int32))), (.ref b5)])) _
    refine XS.lload X9.here hx rfl (hb hby at_111) rfl ?_
    show Steps p.tables e below (T9.setTop (mkF m 113 #[.val (.int p1), .val (.int p2), .val (.long q3), .second, .val (.long q4), .second, .val (.long q5), .second, .val (.int p6), .val (.int (p1 &&& (65535 : Int32))), .val (.int (((p6.toUInt32 >>> ((8 : Int32) &&& 31).toUInt32).toInt32) &&& (255 : Int32))), .val (.int ((p6 &&& (2147483647 : Int32)) % (3 : Int32))), .val (.long (q4 &&& (4611686018427387903 : Int64))), .second, .val (.long (q5 &&& (4611686018427387903 : Int64))), .second, .val (.long w16), .second, .val (.ref b5), .unset, .unset, .unset, .unset, .unset, .unset] [(.long w16), (.int ((p6 &&& (2147483647 : Int32)) % (3 : Int32))), (.ref b5)])) _
    refine st10.trans ?_
    show Steps p.tables e below (T10.setTop (mkF m 116 #[.val (.int p1), .val (.int p2), .val (.long q3), .second, .val (.long q4), .second, .val (.long q5), .second, .val (.int p6), .val (.int (p1 &&& (65535 : Int32))), .val (.int (((p6.toUInt32 >>> ((8 : Int32) &&& 31).toUInt32).toInt32) &&& (255 : Int32))), .val (.int ((p6 &&& (2147483647 : Int32)) % (3 : Int32))), .val (.long (q4 &&& (4611686018427387903 : Int64))), .second, .val (.long (q5 &&& (4611686018427387903 : Int64))), .second, .val (.long w16), .second, .val (.ref b5), .unset, .unset, .unset, .unset, .unset, .unset] [])) _
    refine XS.iconst X10.here hx rfl (hb hby at_116) ?_
    show Steps p.tables e below (T10.setTop (mkF m 117 #[.val (.int p1), .val (.int p2), .val (.long q3), .second, .val (.long q4), .second, .val (.long q5), .second, .val (.int p6), .val (.int (p1 &&& (65535 : Int32))), .val (.int (((p6.toUInt32 >>> ((8 : Int32) &&& 31).toUInt32).toInt32) &&& (255 : Int32))), .val (.int ((p6 &&& (2147483647 : Int32)) % (3 : Int32))), .val (.long (q4 &&& (4611686018427387903 : Int64))), .second, .val (.long (q5 &&& (4611686018427387903 : Int64))), .second, .val (.long w16), .second, .val (.ref b5), .unset, .unset, .unset, .unset, .unset, .unset] [(.int (2 : Int32))])) _
    refine XS.iload X10.here hx rfl (hb hby at_117) rfl ?_
    show Steps p.tables e below (T10.setTop (mkF m 119 #[.val (.int p1), .val (.int p2), .val (.long q3), .second, .val (.long q4), .second, .val (.long q5), .second, .val (.int p6), .val (.int (p1 &&& (65535 : Int32))), .val (.int (((p6.toUInt32 >>> ((8 : Int32) &&& 31).toUInt32).toInt32) &&& (255 : Int32))), .val (.int ((p6 &&& (2147483647 : Int32)) % (3 : Int32))), .val (.long (q4 &&& (4611686018427387903 : Int64))), .second, .val (.long (q5 &&& (4611686018427387903 : Int64))), .second, .val (.long w16), .second, .val (.ref b5), .unset, .unset, .unset, .unset, .unset, .unset] [(.int ((p6 &&& (2147483647 : Int32)) % (3 : Int32))), (.int (2 : Int32))])) _
    refine XS.isub X10.here hx rfl (hb hby at_119) rfl ?_
    show Steps p.tables e below (T10.setTop (mkF m 120 #[.val (.int p1), .val (.int p2), .val (.long q3), .second, .val (.long q4), .second, .val (.long q5), .second, .val (.int p6), .val (.int (p1 &&& (65535 : Int32))), .val (.int (((p6.toUInt32 >>> ((8 : Int32) &&& 31).toUInt32).toInt32) &&& (255 : Int32))), .val (.int ((p6 &&& (2147483647 : Int32)) % (3 : Int32))), .val (.long (q4 &&& (4611686018427387903 : Int64))), .second, .val (.long (q5 &&& (4611686018427387903 : Int64))), .second, .val (.long w16), .second, .val (.ref b5), .unset, .unset, .unset, .unset, .unset, .unset] [(.int ((2 : Int32) - ((p6 &&& (2147483647 : Int32)) % (3 : Int32))))])) _
    refine XS.istore X10.here hx rfl (hb hby at_120) rfl (l' := #[.val (.int p1), .val (.int p2), .val (.long q3), .second, .val (.long q4), .second, .val (.long q5), .second, .val (.int p6), .val (.int (p1 &&& (65535 : Int32))), .val (.int (((p6.toUInt32 >>> ((8 : Int32) &&& 31).toUInt32).toInt32) &&& (255 : Int32))), .val (.int ((p6 &&& (2147483647 : Int32)) % (3 : Int32))), .val (.long (q4 &&& (4611686018427387903 : Int64))), .second, .val (.long (q5 &&& (4611686018427387903 : Int64))), .second, .val (.long w16), .second, .val (.ref b5), .val (.int ((2 : Int32) - ((p6 &&& (2147483647 : Int32)) % (3 : Int32)))), .unset, .unset, .unset, .unset, .unset]) rfl ?_
    show Steps p.tables e below (T10.setTop (mkF m 122 #[.val (.int p1), .val (.int p2), .val (.long q3), .second, .val (.long q4), .second, .val (.long q5), .second, .val (.int p6), .val (.int (p1 &&& (65535 : Int32))), .val (.int (((p6.toUInt32 >>> ((8 : Int32) &&& 31).toUInt32).toInt32) &&& (255 : Int32))), .val (.int ((p6 &&& (2147483647 : Int32)) % (3 : Int32))), .val (.long (q4 &&& (4611686018427387903 : Int64))), .second, .val (.long (q5 &&& (4611686018427387903 : Int64))), .second, .val (.long w16), .second, .val (.ref b5), .val (.int ((2 : Int32) - ((p6 &&& (2147483647 : Int32)) % (3 : Int32)))), .unset, .unset, .unset, .unset, .unset] [])) _
    refine XS.lload X10.here hx rfl (hb hby at_122) rfl ?_
    show Steps p.tables e below (T10.setTop (mkF m 124 #[.val (.int p1), .val (.int p2), .val (.long q3), .second, .val (.long q4), .second, .val (.long q5), .second, .val (.int p6), .val (.int (p1 &&& (65535 : Int32))), .val (.int (((p6.toUInt32 >>> ((8 : Int32) &&& 31).toUInt32).toInt32) &&& (255 : Int32))), .val (.int ((p6 &&& (2147483647 : Int32)) % (3 : Int32))), .val (.long (q4 &&& (4611686018427387903 : Int64))), .second, .val (.long (q5 &&& (4611686018427387903 : Int64))), .second, .val (.long w16), .second, .val (.ref b5), .val (.int ((2 : Int32) - ((p6 &&& (2147483647 : Int32)) % (3 : Int32)))), .unset, .unset, .unset, .unset, .unset] [(.long (q4 &&& (4611686018427387903 : Int64)))])) _
    refine XS.lload X10.here hx rfl (hb hby at_124) rfl ?_
    show Steps p.tables e below (T10.setTop (mkF m 126 #[.val (.int p1), .val (.int p2), .val (.long q3), .second, .val (.long q4), .second, .val (.long q5), .second, .val (.int p6), .val (.int (p1 &&& (65535 : Int32))), .val (.int (((p6.toUInt32 >>> ((8 : Int32) &&& 31).toUInt32).toInt32) &&& (255 : Int32))), .val (.int ((p6 &&& (2147483647 : Int32)) % (3 : Int32))), .val (.long (q4 &&& (4611686018427387903 : Int64))), .second, .val (.long (q5 &&& (4611686018427387903 : Int64))), .second, .val (.long w16), .second, .val (.ref b5), .val (.int ((2 : Int32) - ((p6 &&& (2147483647 : Int32)) % (3 : Int32)))), .unset, .unset, .unset, .unset, .unset] [(.long (q5 &&& (4611686018427387903 : Int64))), (.long (q4 &&& (4611686018427387903 : Int64)))])) _
    refine XS.ladd X10.here hx rfl (hb hby at_126) rfl ?_
    show Steps p.tables e below (T10.setTop (mkF m 127 #[.val (.int p1), .val (.int p2), .val (.long q3), .second, .val (.long q4), .second, .val (.long q5), .second, .val (.int p6), .val (.int (p1 &&& (65535 : Int32))), .val (.int (((p6.toUInt32 >>> ((8 : Int32) &&& 31).toUInt32).toInt32) &&& (255 : Int32))), .val (.int ((p6 &&& (2147483647 : Int32)) % (3 : Int32))), .val (.long (q4 &&& (4611686018427387903 : Int64))), .second, .val (.long (q5 &&& (4611686018427387903 : Int64))), .second, .val (.long w16), .second, .val (.ref b5), .val (.int ((2 : Int32) - ((p6 &&& (2147483647 : Int32)) % (3 : Int32)))), .unset, .unset, .unset, .unset, .unset] [(.long ((q4 &&& (4611686018427387903 : Int64)) + (q5 &&& (4611686018427387903 : Int64))))])) _
    refine XS.lload X10.here hx rfl (hb hby at_127) rfl ?_
    show Steps p.tables e below (T10.setTop (mkF m 129 #[.val (.int p1), .val (.int p2), .val (.long q3), .second, .val (.long q4), .second, .val (.long q5), .second, .val (.int p6), .val (.int (p1 &&& (65535 : Int32))), .val (.int (((p6.toUInt32 >>> ((8 : Int32) &&& 31).toUInt32).toInt32) &&& (255 : Int32))), .val (.int ((p6 &&& (2147483647 : Int32)) % (3 : Int32))), .val (.long (q4 &&& (4611686018427387903 : Int64))), .second, .val (.long (q5 &&& (4611686018427387903 : Int64))), .second, .val (.long w16), .second, .val (.ref b5), .val (.int ((2 : Int32) - ((p6 &&& (2147483647 : Int32)) % (3 : Int32)))), .unset, .unset, .unset, .unset, .unset] [(.long w16), (.long ((q4 &&& (4611686018427387903 : Int64)) + (q5 &&& (4611686018427387903 : Int64))))])) _
    refine XS.lsub X10.here hx rfl (hb hby at_129) rfl ?_
    show Steps p.tables e below (T10.setTop (mkF m 130 #[.val (.int p1), .val (.int p2), .val (.long q3), .second, .val (.long q4), .second, .val (.long q5), .second, .val (.int p6), .val (.int (p1 &&& (65535 : Int32))), .val (.int (((p6.toUInt32 >>> ((8 : Int32) &&& 31).toUInt32).toInt32) &&& (255 : Int32))), .val (.int ((p6 &&& (2147483647 : Int32)) % (3 : Int32))), .val (.long (q4 &&& (4611686018427387903 : Int64))), .second, .val (.long (q5 &&& (4611686018427387903 : Int64))), .second, .val (.long w16), .second, .val (.ref b5), .val (.int ((2 : Int32) - ((p6 &&& (2147483647 : Int32)) % (3 : Int32)))), .unset, .unset, .unset, .unset, .unset] [(.long (((q4 &&& (4611686018427387903 : Int64)) + (q5 &&& (4611686018427387903 : Int64))) - w16))])) _
    refine XS.lstore X10.here hx rfl (hb hby at_130) rfl (l' := #[.val (.int p1), .val (.int p2), .val (.long q3), .second, .val (.long q4), .second, .val (.long q5), .second, .val (.int p6), .val (.int (p1 &&& (65535 : Int32))), .val (.int (((p6.toUInt32 >>> ((8 : Int32) &&& 31).toUInt32).toInt32) &&& (255 : Int32))), .val (.int ((p6 &&& (2147483647 : Int32)) % (3 : Int32))), .val (.long (q4 &&& (4611686018427387903 : Int64))), .second, .val (.long (q5 &&& (4611686018427387903 : Int64))), .second, .val (.long w16), .second, .val (.ref b5), .val (.int ((2 : Int32) - ((p6 &&& (2147483647 : Int32)) % (3 : Int32)))), .val (.long (((q4 &&& (4611686018427387903 : Int64)) + (q5 &&& (4611686018427387903 : Int64))) - w16)), .second, .unset, .unset, .unset]) rfl ?_
    exact k
  obtain ⟨w22, w23, hw22, pre12⟩ : ∃ (w22 : Int32) (w23 : Int32), (w23 = own_held (((p6.toUInt32 >>> ((8 : Int32) &&& 31).toUInt32).toInt32) &&& (255 : Int32)) ((2 : Int32) - ((p6 &&& (2147483647 : Int32)) % (3 : Int32))) p2 (((q4 &&& (4611686018427387903 : Int64)) + (q5 &&& (4611686018427387903 : Int64))) - w16) q3) ∧ ∀ t, Steps p.tables e below (T10.setTop (mkF m 167 #[.val (.int p1), .val (.int p2), .val (.long q3), .second, .val (.long q4), .second, .val (.long q5), .second, .val (.int p6), .val (.int (p1 &&& (65535 : Int32))), .val (.int (((p6.toUInt32 >>> ((8 : Int32) &&& 31).toUInt32).toInt32) &&& (255 : Int32))), .val (.int ((p6 &&& (2147483647 : Int32)) % (3 : Int32))), .val (.long (q4 &&& (4611686018427387903 : Int64))), .second, .val (.long (q5 &&& (4611686018427387903 : Int64))), .second, .val (.long w16), .second, .val (.ref b5), .val (.int ((2 : Int32) - ((p6 &&& (2147483647 : Int32)) % (3 : Int32)))), .val (.long (((q4 &&& (4611686018427387903 : Int64)) + (q5 &&& (4611686018427387903 : Int64))) - w16)), .second, .val (.int w22), .unset, .unset] [(.int w23)])) t → Steps p.tables e below (s₁.setTop (entryFrame m #[(.int p1), (.int p2), (.long q3), (.long q4), (.long q5), (.int p6)] maxLocals)) t := by
    have pre13 : ∀ t, Steps p.tables e below (T10.setTop (mkF m 135 #[.val (.int p1), .val (.int p2), .val (.long q3), .second, .val (.long q4), .second, .val (.long q5), .second, .val (.int p6), .val (.int (p1 &&& (65535 : Int32))), .val (.int (((p6.toUInt32 >>> ((8 : Int32) &&& 31).toUInt32).toInt32) &&& (255 : Int32))), .val (.int ((p6 &&& (2147483647 : Int32)) % (3 : Int32))), .val (.long (q4 &&& (4611686018427387903 : Int64))), .second, .val (.long (q5 &&& (4611686018427387903 : Int64))), .second, .val (.long w16), .second, .val (.ref b5), .val (.int ((2 : Int32) - ((p6 &&& (2147483647 : Int32)) % (3 : Int32)))), .val (.long (((q4 &&& (4611686018427387903 : Int64)) + (q5 &&& (4611686018427387903 : Int64))) - w16)), .second, .unset, .unset, .unset] [(.int p2), (.int ((2 : Int32) - ((p6 &&& (2147483647 : Int32)) % (3 : Int32))))])) t → Steps p.tables e below (s₁.setTop (entryFrame m #[(.int p1), (.int p2), (.long q3), (.long q4), (.long q5), (.int p6)] maxLocals)) t := by
      intro t k
      refine pre11 _ ?_
      show Steps p.tables e below (T10.setTop (mkF m 132 #[.val (.int p1), .val (.int p2), .val (.long q3), .second, .val (.long q4), .second, .val (.long q5), .second, .val (.int p6), .val (.int (p1 &&& (65535 : Int32))), .val (.int (((p6.toUInt32 >>> ((8 : Int32) &&& 31).toUInt32).toInt32) &&& (255 : Int32))), .val (.int ((p6 &&& (2147483647 : Int32)) % (3 : Int32))), .val (.long (q4 &&& (4611686018427387903 : Int64))), .second, .val (.long (q5 &&& (4611686018427387903 : Int64))), .second, .val (.long w16), .second, .val (.ref b5), .val (.int ((2 : Int32) - ((p6 &&& (2147483647 : Int32)) % (3 : Int32)))), .val (.long (((q4 &&& (4611686018427387903 : Int64)) + (q5 &&& (4611686018427387903 : Int64))) - w16)), .second, .unset, .unset, .unset] [])) _
      refine XS.iload X10.here hx rfl (hb hby at_132) rfl ?_
      show Steps p.tables e below (T10.setTop (mkF m 134 #[.val (.int p1), .val (.int p2), .val (.long q3), .second, .val (.long q4), .second, .val (.long q5), .second, .val (.int p6), .val (.int (p1 &&& (65535 : Int32))), .val (.int (((p6.toUInt32 >>> ((8 : Int32) &&& 31).toUInt32).toInt32) &&& (255 : Int32))), .val (.int ((p6 &&& (2147483647 : Int32)) % (3 : Int32))), .val (.long (q4 &&& (4611686018427387903 : Int64))), .second, .val (.long (q5 &&& (4611686018427387903 : Int64))), .second, .val (.long w16), .second, .val (.ref b5), .val (.int ((2 : Int32) - ((p6 &&& (2147483647 : Int32)) % (3 : Int32)))), .val (.long (((q4 &&& (4611686018427387903 : Int64)) + (q5 &&& (4611686018427387903 : Int64))) - w16)), .second, .unset, .unset, .unset] [(.int ((2 : Int32) - ((p6 &&& (2147483647 : Int32)) % (3 : Int32))))])) _
      refine XS.iloadN X10.here hx rfl (hb hby at_134) rfl ?_
      exact k
    by_cases hc135 : ((2 : Int32) - ((p6 &&& (2147483647 : Int32)) % (3 : Int32))) < p2
    · -- hc135 
      have pre14 : ∀ t, Steps p.tables e below (T10.setTop (mkF m 142 #[.val (.int p1), .val (.int p2), .val (.long q3), .second, .val (.long q4), .second, .val (.long q5), .second, .val (.int p6), .val (.int (p1 &&& (65535 : Int32))), .val (.int (((p6.toUInt32 >>> ((8 : Int32) &&& 31).toUInt32).toInt32) &&& (255 : Int32))), .val (.int ((p6 &&& (2147483647 : Int32)) % (3 : Int32))), .val (.long (q4 &&& (4611686018427387903 : Int64))), .second, .val (.long (q5 &&& (4611686018427387903 : Int64))), .second, .val (.long w16), .second, .val (.ref b5), .val (.int ((2 : Int32) - ((p6 &&& (2147483647 : Int32)) % (3 : Int32)))), .val (.long (((q4 &&& (4611686018427387903 : Int64)) + (q5 &&& (4611686018427387903 : Int64))) - w16)), .second, .unset, .unset, .unset] [(.int (lcmpW (((q4 &&& (4611686018427387903 : Int64)) + (q5 &&& (4611686018427387903 : Int64))) - w16) q3))])) t → Steps p.tables e below (s₁.setTop (entryFrame m #[(.int p1), (.int p2), (.long q3), (.long q4), (.long q5), (.int p6)] maxLocals)) t := by
        intro t k
        refine pre13 _ ?_
        show Steps p.tables e below (T10.setTop (mkF m 135 #[.val (.int p1), .val (.int p2), .val (.long q3), .second, .val (.long q4), .second, .val (.long q5), .second, .val (.int p6), .val (.int (p1 &&& (65535 : Int32))), .val (.int (((p6.toUInt32 >>> ((8 : Int32) &&& 31).toUInt32).toInt32) &&& (255 : Int32))), .val (.int ((p6 &&& (2147483647 : Int32)) % (3 : Int32))), .val (.long (q4 &&& (4611686018427387903 : Int64))), .second, .val (.long (q5 &&& (4611686018427387903 : Int64))), .second, .val (.long w16), .second, .val (.ref b5), .val (.int ((2 : Int32) - ((p6 &&& (2147483647 : Int32)) % (3 : Int32)))), .val (.long (((q4 &&& (4611686018427387903 : Int64)) + (q5 &&& (4611686018427387903 : Int64))) - w16)), .second, .unset, .unset, .unset] [(.int p2), (.int ((2 : Int32) - ((p6 &&& (2147483647 : Int32)) % (3 : Int32))))])) _
        refine XS.icmpNo X10.here hx rfl (hb hby at_135) rfl (tlt hc135).2.1 ?_
        show Steps p.tables e below (T10.setTop (mkF m 138 #[.val (.int p1), .val (.int p2), .val (.long q3), .second, .val (.long q4), .second, .val (.long q5), .second, .val (.int p6), .val (.int (p1 &&& (65535 : Int32))), .val (.int (((p6.toUInt32 >>> ((8 : Int32) &&& 31).toUInt32).toInt32) &&& (255 : Int32))), .val (.int ((p6 &&& (2147483647 : Int32)) % (3 : Int32))), .val (.long (q4 &&& (4611686018427387903 : Int64))), .second, .val (.long (q5 &&& (4611686018427387903 : Int64))), .second, .val (.long w16), .second, .val (.ref b5), .val (.int ((2 : Int32) - ((p6 &&& (2147483647 : Int32)) % (3 : Int32)))), .val (.long (((q4 &&& (4611686018427387903 : Int64)) + (q5 &&& (4611686018427387903 : Int64))) - w16)), .second, .unset, .unset, .unset] [])) _
        refine XS.lload X10.here hx rfl (hb hby at_138) rfl ?_
        show Steps p.tables e below (T10.setTop (mkF m 140 #[.val (.int p1), .val (.int p2), .val (.long q3), .second, .val (.long q4), .second, .val (.long q5), .second, .val (.int p6), .val (.int (p1 &&& (65535 : Int32))), .val (.int (((p6.toUInt32 >>> ((8 : Int32) &&& 31).toUInt32).toInt32) &&& (255 : Int32))), .val (.int ((p6 &&& (2147483647 : Int32)) % (3 : Int32))), .val (.long (q4 &&& (4611686018427387903 : Int64))), .second, .val (.long (q5 &&& (4611686018427387903 : Int64))), .second, .val (.long w16), .second, .val (.ref b5), .val (.int ((2 : Int32) - ((p6 &&& (2147483647 : Int32)) % (3 : Int32)))), .val (.long (((q4 &&& (4611686018427387903 : Int64)) + (q5 &&& (4611686018427387903 : Int64))) - w16)), .second, .unset, .unset, .unset] [(.long (((q4 &&& (4611686018427387903 : Int64)) + (q5 &&& (4611686018427387903 : Int64))) - w16))])) _
        refine XS.lloadN X10.here hx rfl (hb hby at_140) rfl ?_
        show Steps p.tables e below (T10.setTop (mkF m 141 #[.val (.int p1), .val (.int p2), .val (.long q3), .second, .val (.long q4), .second, .val (.long q5), .second, .val (.int p6), .val (.int (p1 &&& (65535 : Int32))), .val (.int (((p6.toUInt32 >>> ((8 : Int32) &&& 31).toUInt32).toInt32) &&& (255 : Int32))), .val (.int ((p6 &&& (2147483647 : Int32)) % (3 : Int32))), .val (.long (q4 &&& (4611686018427387903 : Int64))), .second, .val (.long (q5 &&& (4611686018427387903 : Int64))), .second, .val (.long w16), .second, .val (.ref b5), .val (.int ((2 : Int32) - ((p6 &&& (2147483647 : Int32)) % (3 : Int32)))), .val (.long (((q4 &&& (4611686018427387903 : Int64)) + (q5 &&& (4611686018427387903 : Int64))) - w16)), .second, .unset, .unset, .unset] [(.long q3), (.long (((q4 &&& (4611686018427387903 : Int64)) + (q5 &&& (4611686018427387903 : Int64))) - w16))])) _
        refine XS.lcmp X10.here hx rfl (hb hby at_141) rfl ?_
        exact k
      by_cases hc142 : (((q4 &&& (4611686018427387903 : Int64)) + (q5 &&& (4611686018427387903 : Int64))) - w16) < q3
      · -- hc142 
        refine ⟨(1 : Int32), (((p6.toUInt32 >>> ((8 : Int32) &&& 31).toUInt32).toInt32) &&& (255 : Int32)), by first | exact own_held1 hc135 hc142 | exact own_held2 hc142 | exact own_held0 hc135, fun t k => ?_⟩
        refine pre14 _ ?_
        show Steps p.tables e below (T10.setTop (mkF m 142 #[.val (.int p1), .val (.int p2), .val (.long q3), .second, .val (.long q4), .second, .val (.long q5), .second, .val (.int p6), .val (.int (p1 &&& (65535 : Int32))), .val (.int (((p6.toUInt32 >>> ((8 : Int32) &&& 31).toUInt32).toInt32) &&& (255 : Int32))), .val (.int ((p6 &&& (2147483647 : Int32)) % (3 : Int32))), .val (.long (q4 &&& (4611686018427387903 : Int64))), .second, .val (.long (q5 &&& (4611686018427387903 : Int64))), .second, .val (.long w16), .second, .val (.ref b5), .val (.int ((2 : Int32) - ((p6 &&& (2147483647 : Int32)) % (3 : Int32)))), .val (.long (((q4 &&& (4611686018427387903 : Int64)) + (q5 &&& (4611686018427387903 : Int64))) - w16)), .second, .unset, .unset, .unset] [(.int (lcmpW (((q4 &&& (4611686018427387903 : Int64)) + (q5 &&& (4611686018427387903 : Int64))) - w16) q3))])) _
        refine XS.ifNo X10.here hx rfl (hb hby at_142) rfl ((if0 _ _).trans (tlt ((lw_lt (((q4 &&& (4611686018427387903 : Int64)) + (q5 &&& (4611686018427387903 : Int64))) - w16) q3).mpr hc142)).2.1) ?_
        show Steps p.tables e below (T10.setTop (mkF m 145 #[.val (.int p1), .val (.int p2), .val (.long q3), .second, .val (.long q4), .second, .val (.long q5), .second, .val (.int p6), .val (.int (p1 &&& (65535 : Int32))), .val (.int (((p6.toUInt32 >>> ((8 : Int32) &&& 31).toUInt32).toInt32) &&& (255 : Int32))), .val (.int ((p6 &&& (2147483647 : Int32)) % (3 : Int32))), .val (.long (q4 &&& (4611686018427387903 : Int64))), .second, .val (.long (q5 &&& (4611686018427387903 : Int64))), .second, .val (.long w16), .second, .val (.ref b5), .val (.int ((2 : Int32) - ((p6 &&& (2147483647 : Int32)) % (3 : Int32)))), .val (.long (((q4 &&& (4611686018427387903 : Int64)) + (q5 &&& (4611686018427387903 : Int64))) - w16)), .second, .unset, .unset, .unset] [])) _
        refine XS.iconst X10.here hx rfl (hb hby at_145) ?_
        show Steps p.tables e below (T10.setTop (mkF m 146 #[.val (.int p1), .val (.int p2), .val (.long q3), .second, .val (.long q4), .second, .val (.long q5), .second, .val (.int p6), .val (.int (p1 &&& (65535 : Int32))), .val (.int (((p6.toUInt32 >>> ((8 : Int32) &&& 31).toUInt32).toInt32) &&& (255 : Int32))), .val (.int ((p6 &&& (2147483647 : Int32)) % (3 : Int32))), .val (.long (q4 &&& (4611686018427387903 : Int64))), .second, .val (.long (q5 &&& (4611686018427387903 : Int64))), .second, .val (.long w16), .second, .val (.ref b5), .val (.int ((2 : Int32) - ((p6 &&& (2147483647 : Int32)) % (3 : Int32)))), .val (.long (((q4 &&& (4611686018427387903 : Int64)) + (q5 &&& (4611686018427387903 : Int64))) - w16)), .second, .unset, .unset, .unset] [(.int (1 : Int32))])) _
        refine XS.goto X10.here hx rfl (pc0 := 146) (pc' := 150) rfl (hb hby at_146) (by decide) (by decide) ?_
        show Steps p.tables e below (T10.setTop (mkF m 150 #[.val (.int p1), .val (.int p2), .val (.long q3), .second, .val (.long q4), .second, .val (.long q5), .second, .val (.int p6), .val (.int (p1 &&& (65535 : Int32))), .val (.int (((p6.toUInt32 >>> ((8 : Int32) &&& 31).toUInt32).toInt32) &&& (255 : Int32))), .val (.int ((p6 &&& (2147483647 : Int32)) % (3 : Int32))), .val (.long (q4 &&& (4611686018427387903 : Int64))), .second, .val (.long (q5 &&& (4611686018427387903 : Int64))), .second, .val (.long w16), .second, .val (.ref b5), .val (.int ((2 : Int32) - ((p6 &&& (2147483647 : Int32)) % (3 : Int32)))), .val (.long (((q4 &&& (4611686018427387903 : Int64)) + (q5 &&& (4611686018427387903 : Int64))) - w16)), .second, .unset, .unset, .unset] [(.int (1 : Int32))])) _
        refine XS.istore X10.here hx rfl (hb hby at_150) rfl (l' := #[.val (.int p1), .val (.int p2), .val (.long q3), .second, .val (.long q4), .second, .val (.long q5), .second, .val (.int p6), .val (.int (p1 &&& (65535 : Int32))), .val (.int (((p6.toUInt32 >>> ((8 : Int32) &&& 31).toUInt32).toInt32) &&& (255 : Int32))), .val (.int ((p6 &&& (2147483647 : Int32)) % (3 : Int32))), .val (.long (q4 &&& (4611686018427387903 : Int64))), .second, .val (.long (q5 &&& (4611686018427387903 : Int64))), .second, .val (.long w16), .second, .val (.ref b5), .val (.int ((2 : Int32) - ((p6 &&& (2147483647 : Int32)) % (3 : Int32)))), .val (.long (((q4 &&& (4611686018427387903 : Int64)) + (q5 &&& (4611686018427387903 : Int64))) - w16)), .second, .val (.int (1 : Int32)), .unset, .unset]) rfl ?_
        show Steps p.tables e below (T10.setTop (mkF m 152 #[.val (.int p1), .val (.int p2), .val (.long q3), .second, .val (.long q4), .second, .val (.long q5), .second, .val (.int p6), .val (.int (p1 &&& (65535 : Int32))), .val (.int (((p6.toUInt32 >>> ((8 : Int32) &&& 31).toUInt32).toInt32) &&& (255 : Int32))), .val (.int ((p6 &&& (2147483647 : Int32)) % (3 : Int32))), .val (.long (q4 &&& (4611686018427387903 : Int64))), .second, .val (.long (q5 &&& (4611686018427387903 : Int64))), .second, .val (.long w16), .second, .val (.ref b5), .val (.int ((2 : Int32) - ((p6 &&& (2147483647 : Int32)) % (3 : Int32)))), .val (.long (((q4 &&& (4611686018427387903 : Int64)) + (q5 &&& (4611686018427387903 : Int64))) - w16)), .second, .val (.int (1 : Int32)), .unset, .unset] [])) _
        refine XS.iload X10.here hx rfl (hb hby at_152) rfl ?_
        show Steps p.tables e below (T10.setTop (mkF m 154 #[.val (.int p1), .val (.int p2), .val (.long q3), .second, .val (.long q4), .second, .val (.long q5), .second, .val (.int p6), .val (.int (p1 &&& (65535 : Int32))), .val (.int (((p6.toUInt32 >>> ((8 : Int32) &&& 31).toUInt32).toInt32) &&& (255 : Int32))), .val (.int ((p6 &&& (2147483647 : Int32)) % (3 : Int32))), .val (.long (q4 &&& (4611686018427387903 : Int64))), .second, .val (.long (q5 &&& (4611686018427387903 : Int64))), .second, .val (.long w16), .second, .val (.ref b5), .val (.int ((2 : Int32) - ((p6 &&& (2147483647 : Int32)) % (3 : Int32)))), .val (.long (((q4 &&& (4611686018427387903 : Int64)) + (q5 &&& (4611686018427387903 : Int64))) - w16)), .second, .val (.int (1 : Int32)), .unset, .unset] [(.int (1 : Int32))])) _
        refine XS.ifNo X10.here hx rfl (hb hby at_154) rfl ((if0 _ _).trans (feq (by decide : ¬ ((1 : Int32) = (0 : Int32)))).1) ?_
        show Steps p.tables e below (T10.setTop (mkF m 157 #[.val (.int p1), .val (.int p2), .val (.long q3), .second, .val (.long q4), .second, .val (.long q5), .second, .val (.int p6), .val (.int (p1 &&& (65535 : Int32))), .val (.int (((p6.toUInt32 >>> ((8 : Int32) &&& 31).toUInt32).toInt32) &&& (255 : Int32))), .val (.int ((p6 &&& (2147483647 : Int32)) % (3 : Int32))), .val (.long (q4 &&& (4611686018427387903 : Int64))), .second, .val (.long (q5 &&& (4611686018427387903 : Int64))), .second, .val (.long w16), .second, .val (.ref b5), .val (.int ((2 : Int32) - ((p6 &&& (2147483647 : Int32)) % (3 : Int32)))), .val (.long (((q4 &&& (4611686018427387903 : Int64)) + (q5 &&& (4611686018427387903 : Int64))) - w16)), .second, .val (.int (1 : Int32)), .unset, .unset] [])) _
        refine XS.iload X10.here hx rfl (hb hby at_157) rfl ?_
        show Steps p.tables e below (T10.setTop (mkF m 159 #[.val (.int p1), .val (.int p2), .val (.long q3), .second, .val (.long q4), .second, .val (.long q5), .second, .val (.int p6), .val (.int (p1 &&& (65535 : Int32))), .val (.int (((p6.toUInt32 >>> ((8 : Int32) &&& 31).toUInt32).toInt32) &&& (255 : Int32))), .val (.int ((p6 &&& (2147483647 : Int32)) % (3 : Int32))), .val (.long (q4 &&& (4611686018427387903 : Int64))), .second, .val (.long (q5 &&& (4611686018427387903 : Int64))), .second, .val (.long w16), .second, .val (.ref b5), .val (.int ((2 : Int32) - ((p6 &&& (2147483647 : Int32)) % (3 : Int32)))), .val (.long (((q4 &&& (4611686018427387903 : Int64)) + (q5 &&& (4611686018427387903 : Int64))) - w16)), .second, .val (.int (1 : Int32)), .unset, .unset] [(.int (((p6.toUInt32 >>> ((8 : Int32) &&& 31).toUInt32).toInt32) &&& (255 : Int32)))])) _
        refine XS.goto X10.here hx rfl (pc0 := 159) (pc' := 167) rfl (hb hby at_159) (by decide) (by decide) ?_
        exact k
      · -- hc142 not
        refine ⟨(0 : Int32), ((((p6.toUInt32 >>> ((8 : Int32) &&& 31).toUInt32).toInt32) &&& (255 : Int32)) + ((2 : Int32) - ((p6 &&& (2147483647 : Int32)) % (3 : Int32)))), by first | exact own_held1 hc135 hc142 | exact own_held2 hc142 | exact own_held0 hc135, fun t k => ?_⟩
        refine pre14 _ ?_
        show Steps p.tables e below (T10.setTop (mkF m 142 #[.val (.int p1), .val (.int p2), .val (.long q3), .second, .val (.long q4), .second, .val (.long q5), .second, .val (.int p6), .val (.int (p1 &&& (65535 : Int32))), .val (.int (((p6.toUInt32 >>> ((8 : Int32) &&& 31).toUInt32).toInt32) &&& (255 : Int32))), .val (.int ((p6 &&& (2147483647 : Int32)) % (3 : Int32))), .val (.long (q4 &&& (4611686018427387903 : Int64))), .second, .val (.long (q5 &&& (4611686018427387903 : Int64))), .second, .val (.long w16), .second, .val (.ref b5), .val (.int ((2 : Int32) - ((p6 &&& (2147483647 : Int32)) % (3 : Int32)))), .val (.long (((q4 &&& (4611686018427387903 : Int64)) + (q5 &&& (4611686018427387903 : Int64))) - w16)), .second, .unset, .unset, .unset] [(.int (lcmpW (((q4 &&& (4611686018427387903 : Int64)) + (q5 &&& (4611686018427387903 : Int64))) - w16) q3))])) _
        refine XS.ifYes X10.here hx rfl (pc0 := 142) (pc' := 149) rfl (hb hby at_142) rfl ((if0 _ _).trans (flt (fun q => hc142 ((lw_lt (((q4 &&& (4611686018427387903 : Int64)) + (q5 &&& (4611686018427387903 : Int64))) - w16) q3).mp q))).2.1) (by decide) (by decide) ?_
        show Steps p.tables e below (T10.setTop (mkF m 149 #[.val (.int p1), .val (.int p2), .val (.long q3), .second, .val (.long q4), .second, .val (.long q5), .second, .val (.int p6), .val (.int (p1 &&& (65535 : Int32))), .val (.int (((p6.toUInt32 >>> ((8 : Int32) &&& 31).toUInt32).toInt32) &&& (255 : Int32))), .val (.int ((p6 &&& (2147483647 : Int32)) % (3 : Int32))), .val (.long (q4 &&& (4611686018427387903 : Int64))), .second, .val (.long (q5 &&& (4611686018427387903 : Int64))), .second, .val (.long w16), .second, .val (.ref b5), .val (.int ((2 : Int32) - ((p6 &&& (2147483647 : Int32)) % (3 : Int32)))), .val (.long (((q4 &&& (4611686018427387903 : Int64)) + (q5 &&& (4611686018427387903 : Int64))) - w16)), .second, .unset, .unset, .unset] [])) _
        refine XS.iconst X10.here hx rfl (hb hby at_149) ?_
        show Steps p.tables e below (T10.setTop (mkF m 150 #[.val (.int p1), .val (.int p2), .val (.long q3), .second, .val (.long q4), .second, .val (.long q5), .second, .val (.int p6), .val (.int (p1 &&& (65535 : Int32))), .val (.int (((p6.toUInt32 >>> ((8 : Int32) &&& 31).toUInt32).toInt32) &&& (255 : Int32))), .val (.int ((p6 &&& (2147483647 : Int32)) % (3 : Int32))), .val (.long (q4 &&& (4611686018427387903 : Int64))), .second, .val (.long (q5 &&& (4611686018427387903 : Int64))), .second, .val (.long w16), .second, .val (.ref b5), .val (.int ((2 : Int32) - ((p6 &&& (2147483647 : Int32)) % (3 : Int32)))), .val (.long (((q4 &&& (4611686018427387903 : Int64)) + (q5 &&& (4611686018427387903 : Int64))) - w16)), .second, .unset, .unset, .unset] [(.int (0 : Int32))])) _
        refine XS.istore X10.here hx rfl (hb hby at_150) rfl (l' := #[.val (.int p1), .val (.int p2), .val (.long q3), .second, .val (.long q4), .second, .val (.long q5), .second, .val (.int p6), .val (.int (p1 &&& (65535 : Int32))), .val (.int (((p6.toUInt32 >>> ((8 : Int32) &&& 31).toUInt32).toInt32) &&& (255 : Int32))), .val (.int ((p6 &&& (2147483647 : Int32)) % (3 : Int32))), .val (.long (q4 &&& (4611686018427387903 : Int64))), .second, .val (.long (q5 &&& (4611686018427387903 : Int64))), .second, .val (.long w16), .second, .val (.ref b5), .val (.int ((2 : Int32) - ((p6 &&& (2147483647 : Int32)) % (3 : Int32)))), .val (.long (((q4 &&& (4611686018427387903 : Int64)) + (q5 &&& (4611686018427387903 : Int64))) - w16)), .second, .val (.int (0 : Int32)), .unset, .unset]) rfl ?_
        show Steps p.tables e below (T10.setTop (mkF m 152 #[.val (.int p1), .val (.int p2), .val (.long q3), .second, .val (.long q4), .second, .val (.long q5), .second, .val (.int p6), .val (.int (p1 &&& (65535 : Int32))), .val (.int (((p6.toUInt32 >>> ((8 : Int32) &&& 31).toUInt32).toInt32) &&& (255 : Int32))), .val (.int ((p6 &&& (2147483647 : Int32)) % (3 : Int32))), .val (.long (q4 &&& (4611686018427387903 : Int64))), .second, .val (.long (q5 &&& (4611686018427387903 : Int64))), .second, .val (.long w16), .second, .val (.ref b5), .val (.int ((2 : Int32) - ((p6 &&& (2147483647 : Int32)) % (3 : Int32)))), .val (.long (((q4 &&& (4611686018427387903 : Int64)) + (q5 &&& (4611686018427387903 : Int64))) - w16)), .second, .val (.int (0 : Int32)), .unset, .unset] [])) _
        refine XS.iload X10.here hx rfl (hb hby at_152) rfl ?_
        show Steps p.tables e below (T10.setTop (mkF m 154 #[.val (.int p1), .val (.int p2), .val (.long q3), .second, .val (.long q4), .second, .val (.long q5), .second, .val (.int p6), .val (.int (p1 &&& (65535 : Int32))), .val (.int (((p6.toUInt32 >>> ((8 : Int32) &&& 31).toUInt32).toInt32) &&& (255 : Int32))), .val (.int ((p6 &&& (2147483647 : Int32)) % (3 : Int32))), .val (.long (q4 &&& (4611686018427387903 : Int64))), .second, .val (.long (q5 &&& (4611686018427387903 : Int64))), .second, .val (.long w16), .second, .val (.ref b5), .val (.int ((2 : Int32) - ((p6 &&& (2147483647 : Int32)) % (3 : Int32)))), .val (.long (((q4 &&& (4611686018427387903 : Int64)) + (q5 &&& (4611686018427387903 : Int64))) - w16)), .second, .val (.int (0 : Int32)), .unset, .unset] [(.int (0 : Int32))])) _
        refine XS.ifYes X10.here hx rfl (pc0 := 154) (pc' := 162) rfl (hb hby at_154) rfl ((if0 _ _).trans (teq (by decide : ((0 : Int32) = (0 : Int32)))).1) (by decide) (by decide) ?_
        show Steps p.tables e below (T10.setTop (mkF m 162 #[.val (.int p1), .val (.int p2), .val (.long q3), .second, .val (.long q4), .second, .val (.long q5), .second, .val (.int p6), .val (.int (p1 &&& (65535 : Int32))), .val (.int (((p6.toUInt32 >>> ((8 : Int32) &&& 31).toUInt32).toInt32) &&& (255 : Int32))), .val (.int ((p6 &&& (2147483647 : Int32)) % (3 : Int32))), .val (.long (q4 &&& (4611686018427387903 : Int64))), .second, .val (.long (q5 &&& (4611686018427387903 : Int64))), .second, .val (.long w16), .second, .val (.ref b5), .val (.int ((2 : Int32) - ((p6 &&& (2147483647 : Int32)) % (3 : Int32)))), .val (.long (((q4 &&& (4611686018427387903 : Int64)) + (q5 &&& (4611686018427387903 : Int64))) - w16)), .second, .val (.int (0 : Int32)), .unset, .unset] [])) _
        refine XS.iload X10.here hx rfl (hb hby at_162) rfl ?_
        show Steps p.tables e below (T10.setTop (mkF m 164 #[.val (.int p1), .val (.int p2), .val (.long q3), .second, .val (.long q4), .second, .val (.long q5), .second, .val (.int p6), .val (.int (p1 &&& (65535 : Int32))), .val (.int (((p6.toUInt32 >>> ((8 : Int32) &&& 31).toUInt32).toInt32) &&& (255 : Int32))), .val (.int ((p6 &&& (2147483647 : Int32)) % (3 : Int32))), .val (.long (q4 &&& (4611686018427387903 : Int64))), .second, .val (.long (q5 &&& (4611686018427387903 : Int64))), .second, .val (.long w16), .second, .val (.ref b5), .val (.int ((2 : Int32) - ((p6 &&& (2147483647 : Int32)) % (3 : Int32)))), .val (.long (((q4 &&& (4611686018427387903 : Int64)) + (q5 &&& (4611686018427387903 : Int64))) - w16)), .second, .val (.int (0 : Int32)), .unset, .unset] [(.int (((p6.toUInt32 >>> ((8 : Int32) &&& 31).toUInt32).toInt32) &&& (255 : Int32)))])) _
        refine XS.iload X10.here hx rfl (hb hby at_164) rfl ?_
        show Steps p.tables e below (T10.setTop (mkF m 166 #[.val (.int p1), .val (.int p2), .val (.long q3), .second, .val (.long q4), .second, .val (.long q5), .second, .val (.int p6), .val (.int (p1 &&& (65535 : Int32))), .val (.int (((p6.toUInt32 >>> ((8 : Int32) &&& 31).toUInt32).toInt32) &&& (255 : Int32))), .val (.int ((p6 &&& (2147483647 : Int32)) % (3 : Int32))), .val (.long (q4 &&& (4611686018427387903 : Int64))), .second, .val (.long (q5 &&& (4611686018427387903 : Int64))), .second, .val (.long w16), .second, .val (.ref b5), .val (.int ((2 : Int32) - ((p6 &&& (2147483647 : Int32)) % (3 : Int32)))), .val (.long (((q4 &&& (4611686018427387903 : Int64)) + (q5 &&& (4611686018427387903 : Int64))) - w16)), .second, .val (.int (0 : Int32)), .unset, .unset] [(.int ((2 : Int32) - ((p6 &&& (2147483647 : Int32)) % (3 : Int32)))), (.int (((p6.toUInt32 >>> ((8 : Int32) &&& 31).toUInt32).toInt32) &&& (255 : Int32)))])) _
        refine XS.iadd X10.here hx rfl (hb hby at_166) rfl ?_
        exact k
    · -- hc135 not
      refine ⟨(0 : Int32), ((((p6.toUInt32 >>> ((8 : Int32) &&& 31).toUInt32).toInt32) &&& (255 : Int32)) + ((2 : Int32) - ((p6 &&& (2147483647 : Int32)) % (3 : Int32)))), by exact own_held0 hc135, fun t k => ?_⟩
      refine pre13 _ ?_
      show Steps p.tables e below (T10.setTop (mkF m 135 #[.val (.int p1), .val (.int p2), .val (.long q3), .second, .val (.long q4), .second, .val (.long q5), .second, .val (.int p6), .val (.int (p1 &&& (65535 : Int32))), .val (.int (((p6.toUInt32 >>> ((8 : Int32) &&& 31).toUInt32).toInt32) &&& (255 : Int32))), .val (.int ((p6 &&& (2147483647 : Int32)) % (3 : Int32))), .val (.long (q4 &&& (4611686018427387903 : Int64))), .second, .val (.long (q5 &&& (4611686018427387903 : Int64))), .second, .val (.long w16), .second, .val (.ref b5), .val (.int ((2 : Int32) - ((p6 &&& (2147483647 : Int32)) % (3 : Int32)))), .val (.long (((q4 &&& (4611686018427387903 : Int64)) + (q5 &&& (4611686018427387903 : Int64))) - w16)), .second, .unset, .unset, .unset] [(.int p2), (.int ((2 : Int32) - ((p6 &&& (2147483647 : Int32)) % (3 : Int32))))])) _
      refine XS.icmpYes X10.here hx rfl (pc0 := 135) (pc' := 149) rfl (hb hby at_135) rfl (flt hc135).2.1 (by decide) (by decide) ?_
      show Steps p.tables e below (T10.setTop (mkF m 149 #[.val (.int p1), .val (.int p2), .val (.long q3), .second, .val (.long q4), .second, .val (.long q5), .second, .val (.int p6), .val (.int (p1 &&& (65535 : Int32))), .val (.int (((p6.toUInt32 >>> ((8 : Int32) &&& 31).toUInt32).toInt32) &&& (255 : Int32))), .val (.int ((p6 &&& (2147483647 : Int32)) % (3 : Int32))), .val (.long (q4 &&& (4611686018427387903 : Int64))), .second, .val (.long (q5 &&& (4611686018427387903 : Int64))), .second, .val (.long w16), .second, .val (.ref b5), .val (.int ((2 : Int32) - ((p6 &&& (2147483647 : Int32)) % (3 : Int32)))), .val (.long (((q4 &&& (4611686018427387903 : Int64)) + (q5 &&& (4611686018427387903 : Int64))) - w16)), .second, .unset, .unset, .unset] [])) _
      refine XS.iconst X10.here hx rfl (hb hby at_149) ?_
      show Steps p.tables e below (T10.setTop (mkF m 150 #[.val (.int p1), .val (.int p2), .val (.long q3), .second, .val (.long q4), .second, .val (.long q5), .second, .val (.int p6), .val (.int (p1 &&& (65535 : Int32))), .val (.int (((p6.toUInt32 >>> ((8 : Int32) &&& 31).toUInt32).toInt32) &&& (255 : Int32))), .val (.int ((p6 &&& (2147483647 : Int32)) % (3 : Int32))), .val (.long (q4 &&& (4611686018427387903 : Int64))), .second, .val (.long (q5 &&& (4611686018427387903 : Int64))), .second, .val (.long w16), .second, .val (.ref b5), .val (.int ((2 : Int32) - ((p6 &&& (2147483647 : Int32)) % (3 : Int32)))), .val (.long (((q4 &&& (4611686018427387903 : Int64)) + (q5 &&& (4611686018427387903 : Int64))) - w16)), .second, .unset, .unset, .unset] [(.int (0 : Int32))])) _
      refine XS.istore X10.here hx rfl (hb hby at_150) rfl (l' := #[.val (.int p1), .val (.int p2), .val (.long q3), .second, .val (.long q4), .second, .val (.long q5), .second, .val (.int p6), .val (.int (p1 &&& (65535 : Int32))), .val (.int (((p6.toUInt32 >>> ((8 : Int32) &&& 31).toUInt32).toInt32) &&& (255 : Int32))), .val (.int ((p6 &&& (2147483647 : Int32)) % (3 : Int32))), .val (.long (q4 &&& (4611686018427387903 : Int64))), .second, .val (.long (q5 &&& (4611686018427387903 : Int64))), .second, .val (.long w16), .second, .val (.ref b5), .val (.int ((2 : Int32) - ((p6 &&& (2147483647 : Int32)) % (3 : Int32)))), .val (.long (((q4 &&& (4611686018427387903 : Int64)) + (q5 &&& (4611686018427387903 : Int64))) - w16)), .second, .val (.int (0 : Int32)), .unset, .unset]) rfl ?_
      show Steps p.tables e below (T10.setTop (mkF m 152 #[.val (.int p1), .val (.int p2), .val (.long q3), .second, .val (.long q4), .second, .val (.long q5), .second, .val (.int p6), .val (.int (p1 &&& (65535 : Int32))), .val (.int (((p6.toUInt32 >>> ((8 : Int32) &&& 31).toUInt32).toInt32) &&& (255 : Int32))), .val (.int ((p6 &&& (2147483647 : Int32)) % (3 : Int32))), .val (.long (q4 &&& (4611686018427387903 : Int64))), .second, .val (.long (q5 &&& (4611686018427387903 : Int64))), .second, .val (.long w16), .second, .val (.ref b5), .val (.int ((2 : Int32) - ((p6 &&& (2147483647 : Int32)) % (3 : Int32)))), .val (.long (((q4 &&& (4611686018427387903 : Int64)) + (q5 &&& (4611686018427387903 : Int64))) - w16)), .second, .val (.int (0 : Int32)), .unset, .unset] [])) _
      refine XS.iload X10.here hx rfl (hb hby at_152) rfl ?_
      show Steps p.tables e below (T10.setTop (mkF m 154 #[.val (.int p1), .val (.int p2), .val (.long q3), .second, .val (.long q4), .second, .val (.long q5), .second, .val (.int p6), .val (.int (p1 &&& (65535 : Int32))), .val (.int (((p6.toUInt32 >>> ((8 : Int32) &&& 31).toUInt32).toInt32) &&& (255 : Int32))), .val (.int ((p6 &&& (2147483647 : Int32)) % (3 : Int32))), .val (.long (q4 &&& (4611686018427387903 : Int64))), .second, .val (.long (q5 &&& (4611686018427387903 : Int64))), .second, .val (.long w16), .second, .val (.ref b5), .val (.int ((2 : Int32) - ((p6 &&& (2147483647 : Int32)) % (3 : Int32)))), .val (.long (((q4 &&& (4611686018427387903 : Int64)) + (q5 &&& (4611686018427387903 : Int64))) - w16)), .second, .val (.int (0 : Int32)), .unset, .unset] [(.int (0 : Int32))])) _
      refine XS.ifYes X10.here hx rfl (pc0 := 154) (pc' := 162) rfl (hb hby at_154) rfl ((if0 _ _).trans (teq (by decide : ((0 : Int32) = (0 : Int32)))).1) (by decide) (by decide) ?_
      show Steps p.tables e below (T10.setTop (mkF m 162 #[.val (.int p1), .val (.int p2), .val (.long q3), .second, .val (.long q4), .second, .val (.long q5), .second, .val (.int p6), .val (.int (p1 &&& (65535 : Int32))), .val (.int (((p6.toUInt32 >>> ((8 : Int32) &&& 31).toUInt32).toInt32) &&& (255 : Int32))), .val (.int ((p6 &&& (2147483647 : Int32)) % (3 : Int32))), .val (.long (q4 &&& (4611686018427387903 : Int64))), .second, .val (.long (q5 &&& (4611686018427387903 : Int64))), .second, .val (.long w16), .second, .val (.ref b5), .val (.int ((2 : Int32) - ((p6 &&& (2147483647 : Int32)) % (3 : Int32)))), .val (.long (((q4 &&& (4611686018427387903 : Int64)) + (q5 &&& (4611686018427387903 : Int64))) - w16)), .second, .val (.int (0 : Int32)), .unset, .unset] [])) _
      refine XS.iload X10.here hx rfl (hb hby at_162) rfl ?_
      show Steps p.tables e below (T10.setTop (mkF m 164 #[.val (.int p1), .val (.int p2), .val (.long q3), .second, .val (.long q4), .second, .val (.long q5), .second, .val (.int p6), .val (.int (p1 &&& (65535 : Int32))), .val (.int (((p6.toUInt32 >>> ((8 : Int32) &&& 31).toUInt32).toInt32) &&& (255 : Int32))), .val (.int ((p6 &&& (2147483647 : Int32)) % (3 : Int32))), .val (.long (q4 &&& (4611686018427387903 : Int64))), .second, .val (.long (q5 &&& (4611686018427387903 : Int64))), .second, .val (.long w16), .second, .val (.ref b5), .val (.int ((2 : Int32) - ((p6 &&& (2147483647 : Int32)) % (3 : Int32)))), .val (.long (((q4 &&& (4611686018427387903 : Int64)) + (q5 &&& (4611686018427387903 : Int64))) - w16)), .second, .val (.int (0 : Int32)), .unset, .unset] [(.int (((p6.toUInt32 >>> ((8 : Int32) &&& 31).toUInt32).toInt32) &&& (255 : Int32)))])) _
      refine XS.iload X10.here hx rfl (hb hby at_164) rfl ?_
      show Steps p.tables e below (T10.setTop (mkF m 166 #[.val (.int p1), .val (.int p2), .val (.long q3), .second, .val (.long q4), .second, .val (.long q5), .second, .val (.int p6), .val (.int (p1 &&& (65535 : Int32))), .val (.int (((p6.toUInt32 >>> ((8 : Int32) &&& 31).toUInt32).toInt32) &&& (255 : Int32))), .val (.int ((p6 &&& (2147483647 : Int32)) % (3 : Int32))), .val (.long (q4 &&& (4611686018427387903 : Int64))), .second, .val (.long (q5 &&& (4611686018427387903 : Int64))), .second, .val (.long w16), .second, .val (.ref b5), .val (.int ((2 : Int32) - ((p6 &&& (2147483647 : Int32)) % (3 : Int32)))), .val (.long (((q4 &&& (4611686018427387903 : Int64)) + (q5 &&& (4611686018427387903 : Int64))) - w16)), .second, .val (.int (0 : Int32)), .unset, .unset] [(.int ((2 : Int32) - ((p6 &&& (2147483647 : Int32)) % (3 : Int32)))), (.int (((p6.toUInt32 >>> ((8 : Int32) &&& 31).toUInt32).toInt32) &&& (255 : Int32)))])) _
      refine XS.iadd X10.here hx rfl (hb hby at_166) rfl ?_
      exact k
  obtain ⟨_, _, ⟨T15, L15, k15, n15⟩, -, X15, ⟨Lc15, hQ15, l15, y15, z15⟩, st15⟩ := Jvm.LawKit.callS X10 hx (y := (⟨"java/lang/Math", "max", "(II)I"⟩ : MethodName)) hown (mvT hZ (hw _ (List.mem_of_getElem? (i := 48) rfl))) (mvT hZ (hw _ (List.mem_of_getElem? (i := 40) rfl))) (mvT hZ (hw _ (List.mem_of_getElem? (i := 41) rfl))) (mvT hZ (hw _ (List.mem_of_getElem? (i := 42) rfl))) (by decide) (backOf (W := 0) (rm6 l Z a0 hw [] (0 : Int32) ((p1 &&& (65535 : Int32)) - w23)  T10.heap n0 Z10 ) hZ (hw _ (List.mem_of_getElem? (i := 42) rfl)) (hw _ (List.mem_of_getElem? (i := 41) rfl)) (by decide) (by decide)) (g := (mkF m 175 #[.val (.int p1), .val (.int p2), .val (.long q3), .second, .val (.long q4), .second, .val (.long q5), .second, .val (.int p6), .val (.int (p1 &&& (65535 : Int32))), .val (.int (((p6.toUInt32 >>> ((8 : Int32) &&& 31).toUInt32).toInt32) &&& (255 : Int32))), .val (.int ((p6 &&& (2147483647 : Int32)) % (3 : Int32))), .val (.long (q4 &&& (4611686018427387903 : Int64))), .second, .val (.long (q5 &&& (4611686018427387903 : Int64))), .second, .val (.long w16), .second, .val (.ref b5), .val (.int ((2 : Int32) - ((p6 &&& (2147483647 : Int32)) % (3 : Int32)))), .val (.long (((q4 &&& (4611686018427387903 : Int64)) + (q5 &&& (4611686018427387903 : Int64))) - w16)), .second, .val (.int w22), .val (.int w23), .unset] [(.int ((p1 &&& (65535 : Int32)) - w23)), (.int (0 : Int32))])) rfl (by rw [hml]; rfl) (argsL := [(.int (0 : Int32)), (.int ((p1 &&& (65535 : Int32)) - w23))]) (rest := []) (lenOf own_pd0 rfl) rfl (by show 2 * 0 + _ ≤ _; exact Nat.le_of_eq rfl) (hb hby at_175) (fun _ _ => ⟨rfl, rfl, (by decide : 1 + 0 ≤ _), (by decide : 6 + 0 ≤ _)⟩)
  dsimp only [Pt.U, Pt.locs, Pt.cells, Pt.slots] at X15 l15 y15 z15 st15 hQ15
  subst l15 y15 z15
  obtain ⟨rfl, N15q, e15⟩ := hQ15
  have N15 := Fr.app N10 N15q
  obtain ⟨cq16, kq16, q16a, q16b, q16c⟩ := isOf hZ e15 E_b5
  obtain ⟨_, _, ⟨T16, L16, k16, n16⟩, -, X16, ⟨Lc16, hQ16, l16, y16, z16⟩, st16⟩ := X15.virtualBack hx (y := (⟨"com/example/leafcutter/leafcutter/LeaseRoom", "room", "()I"⟩ : MethodName)) (z := (⟨"com/example/leafcutter/leafcutter/LeaseRoom", "room", "()I"⟩ : MethodName)) hown (mvT hZ (hw _ (List.mem_of_getElem? (i := 49) rfl))) (mvT hZ (hw _ (List.mem_of_getElem? (i := 31) rfl))) (notFace_of_selects (args := #[]) (mvT hZ (hw _ (List.mem_of_getElem? (i := 33) rfl)))) (mvT hZ (hw _ (List.mem_of_getElem? (i := 33) rfl))) (mvT hZ (hw _ (List.mem_of_getElem? (i := 32) rfl))) (by decide) (backOf (W := 0) (rm5 l Z a0 hw [] b5 ((p1 &&& (65535 : Int32))) p2 q3 (((((0 : Int32) + ((((p6.toUInt32 >>> ((8 : Int32) &&& 31).toUInt32).toInt32) &&& (255 : Int32)) + (2 : Int32))) - (1 : Int32)) - (1 : Int32))) (((((0 : Int32) + (1 : Int32)) + (1 : Int32)) - ((p6 &&& (2147483647 : Int32)) % (3 : Int32)))) (((((0 : Int64) + (q4 &&& (4611686018427387903 : Int64))) + (q5 &&& (4611686018427387903 : Int64))) - w16)) T10.heap n0 Z10 F_mCapacity_b5 F_mFreeResults_b5 F_mFreeOutputBytes_b5 F_mUnfinished_b5 F_mUnposted_b5 F_mUnpostedBytes_b5) hZ (hw _ (List.mem_of_getElem? (i := 34) rfl)) (hw _ (List.mem_of_getElem? (i := 5) rfl)) (by decide) (by decide)) q16a q16c (g := (mkF m 182 #[.val (.int p1), .val (.int p2), .val (.long q3), .second, .val (.long q4), .second, .val (.long q5), .second, .val (.int p6), .val (.int (p1 &&& (65535 : Int32))), .val (.int (((p6.toUInt32 >>> ((8 : Int32) &&& 31).toUInt32).toInt32) &&& (255 : Int32))), .val (.int ((p6 &&& (2147483647 : Int32)) % (3 : Int32))), .val (.long (q4 &&& (4611686018427387903 : Int64))), .second, .val (.long (q5 &&& (4611686018427387903 : Int64))), .second, .val (.long w16), .second, .val (.ref b5), .val (.int ((2 : Int32) - ((p6 &&& (2147483647 : Int32)) % (3 : Int32)))), .val (.long (((q4 &&& (4611686018427387903 : Int64)) + (q5 &&& (4611686018427387903 : Int64))) - w16)), .second, .val (.int w22), .val (.int w23), .val (.int (own_max (0 : Int32) ((p1 &&& (65535 : Int32)) - w23)))] [(.ref b5)])) rfl (by rw [hml]; rfl) (Steps.refl _) (argsL := []) (rest := []) (lenOf own_pd1 rfl) rfl (by show 2 * 0 + _ ≤ _; exact Nat.le_of_eq rfl) (hb hby at_182) (fun _ _ => ⟨rfl, e15, (by decide : 1 + 0 ≤ _), (by decide : 6 + 0 ≤ _)⟩)
  dsimp only [Pt.U, Pt.locs, Pt.cells, Pt.slots] at X16 l16 y16 z16 st16 hQ16
  subst l16 y16 z16
  obtain ⟨rfl, N16q, e16⟩ := hQ16
  have N16 := Fr.app N15 N16q
  have pre17 : ∀ t, Steps p.tables e below (T16.setTop (mkF m 195 #[.val (.int p1), .val (.int p2), .val (.long q3), .second, .val (.long q4), .second, .val (.long q5), .second, .val (.int p6), .val (.int (p1 &&& (65535 : Int32))), .val (.int (((p6.toUInt32 >>> ((8 : Int32) &&& 31).toUInt32).toInt32) &&& (255 : Int32))), .val (.int ((p6 &&& (2147483647 : Int32)) % (3 : Int32))), .val (.long (q4 &&& (4611686018427387903 : Int64))), .second, .val (.long (q5 &&& (4611686018427387903 : Int64))), .second, .val (.long w16), .second, .val (.ref b5), .val (.int ((2 : Int32) - ((p6 &&& (2147483647 : Int32)) % (3 : Int32)))), .val (.long (((q4 &&& (4611686018427387903 : Int64)) + (q5 &&& (4611686018427387903 : Int64))) - w16)), .second, .val (.int w22), .val (.int w23), .val (.int (own_max (0 : Int32) ((p1 &&& (65535 : Int32)) - w23)))] [(.int (1 : Int32))])) t → Steps p.tables e below (s₁.setTop (entryFrame m #[(.int p1), (.int p2), (.long q3), (.long q4), (.long q5), (.int p6)] maxLocals)) t := by
    intro t k
    refine pre12 _ ?_
    show Steps p.tables e below (T10.setTop (mkF m 167 #[.val (.int p1), .val (.int p2), .val (.long q3), .second, .val (.long q4), .second, .val (.long q5), .second, .val (.int p6), .val (.int (p1 &&& (65535 : Int32))), .val (.int (((p6.toUInt32 >>> ((8 : Int32) &&& 31).toUInt32).toInt32) &&& (255 : Int32))), .val (.int ((p6 &&& (2147483647 : Int32)) % (3 : Int32))), .val (.long (q4 &&& (4611686018427387903 : Int64))), .second, .val (.long (q5 &&& (4611686018427387903 : Int64))), .second, .val (.long w16), .second, .val (.ref b5), .val (.int ((2 : Int32) - ((p6 &&& (2147483647 : Int32)) % (3 : Int32)))), .val (.long (((q4 &&& (4611686018427387903 : Int64)) + (q5 &&& (4611686018427387903 : Int64))) - w16)), .second, .val (.int w22), .unset, .unset] [(.int w23)])) _
    refine XS.istore X10.here hx rfl (hb hby at_167) rfl (l' := #[.val (.int p1), .val (.int p2), .val (.long q3), .second, .val (.long q4), .second, .val (.long q5), .second, .val (.int p6), .val (.int (p1 &&& (65535 : Int32))), .val (.int (((p6.toUInt32 >>> ((8 : Int32) &&& 31).toUInt32).toInt32) &&& (255 : Int32))), .val (.int ((p6 &&& (2147483647 : Int32)) % (3 : Int32))), .val (.long (q4 &&& (4611686018427387903 : Int64))), .second, .val (.long (q5 &&& (4611686018427387903 : Int64))), .second, .val (.long w16), .second, .val (.ref b5), .val (.int ((2 : Int32) - ((p6 &&& (2147483647 : Int32)) % (3 : Int32)))), .val (.long (((q4 &&& (4611686018427387903 : Int64)) + (q5 &&& (4611686018427387903 : Int64))) - w16)), .second, .val (.int w22), .val (.int w23), .unset]) rfl ?_
    show Steps p.tables e below (T10.setTop (mkF m 169 #[.val (.int p1), .val (.int p2), .val (.long q3), .second, .val (.long q4), .second, .val (.long q5), .second, .val (.int p6), .val (.int (p1 &&& (65535 : Int32))), .val (.int (((p6.toUInt32 >>> ((8 : Int32) &&& 31).toUInt32).toInt32) &&& (255 : Int32))), .val (.int ((p6 &&& (2147483647 : Int32)) % (3 : Int32))), .val (.long (q4 &&& (4611686018427387903 : Int64))), .second, .val (.long (q5 &&& (4611686018427387903 : Int64))), .second, .val (.long w16), .second, .val (.ref b5), .val (.int ((2 : Int32) - ((p6 &&& (2147483647 : Int32)) % (3 : Int32)))), .val (.long (((q4 &&& (4611686018427387903 : Int64)) + (q5 &&& (4611686018427387903 : Int64))) - w16)), .second, .val (.int w22), .val (.int w23), .unset] [])) _
    refine XS.iconst X10.here hx rfl (hb hby at_169) ?_
    show Steps p.tables e below (T10.setTop (mkF m 170 #[.val (.int p1), .val (.int p2), .val (.long q3), .second, .val (.long q4), .second, .val (.long q5), .second, .val (.int p6), .val (.int (p1 &&& (65535 : Int32))), .val (.int (((p6.toUInt32 >>> ((8 : Int32) &&& 31).toUInt32).toInt32) &&& (255 : Int32))), .val (.int ((p6 &&& (2147483647 : Int32)) % (3 : Int32))), .val (.long (q4 &&& (4611686018427387903 : Int64))), .second, .val (.long (q5 &&& (4611686018427387903 : Int64))), .second, .val (.long w16), .second, .val (.ref b5), .val (.int ((2 : Int32) - ((p6 &&& (2147483647 : Int32)) % (3 : Int32)))), .val (.long (((q4 &&& (4611686018427387903 : Int64)) + (q5 &&& (4611686018427387903 : Int64))) - w16)), .second, .val (.int w22), .val (.int w23), .unset] [(.int (0 : Int32))])) _
    refine XS.iload X10.here hx rfl (hb hby at_170) rfl ?_
    show Steps p.tables e below (T10.setTop (mkF m 172 #[.val (.int p1), .val (.int p2), .val (.long q3), .second, .val (.long q4), .second, .val (.long q5), .second, .val (.int p6), .val (.int (p1 &&& (65535 : Int32))), .val (.int (((p6.toUInt32 >>> ((8 : Int32) &&& 31).toUInt32).toInt32) &&& (255 : Int32))), .val (.int ((p6 &&& (2147483647 : Int32)) % (3 : Int32))), .val (.long (q4 &&& (4611686018427387903 : Int64))), .second, .val (.long (q5 &&& (4611686018427387903 : Int64))), .second, .val (.long w16), .second, .val (.ref b5), .val (.int ((2 : Int32) - ((p6 &&& (2147483647 : Int32)) % (3 : Int32)))), .val (.long (((q4 &&& (4611686018427387903 : Int64)) + (q5 &&& (4611686018427387903 : Int64))) - w16)), .second, .val (.int w22), .val (.int w23), .unset] [(.int (p1 &&& (65535 : Int32))), (.int (0 : Int32))])) _
    refine XS.iload X10.here hx rfl (hb hby at_172) rfl ?_
    show Steps p.tables e below (T10.setTop (mkF m 174 #[.val (.int p1), .val (.int p2), .val (.long q3), .second, .val (.long q4), .second, .val (.long q5), .second, .val (.int p6), .val (.int (p1 &&& (65535 : Int32))), .val (.int (((p6.toUInt32 >>> ((8 : Int32) &&& 31).toUInt32).toInt32) &&& (255 : Int32))), .val (.int ((p6 &&& (2147483647 : Int32)) % (3 : Int32))), .val (.long (q4 &&& (4611686018427387903 : Int64))), .second, .val (.long (q5 &&& (4611686018427387903 : Int64))), .second, .val (.long w16), .second, .val (.ref b5), .val (.int ((2 : Int32) - ((p6 &&& (2147483647 : Int32)) % (3 : Int32)))), .val (.long (((q4 &&& (4611686018427387903 : Int64)) + (q5 &&& (4611686018427387903 : Int64))) - w16)), .second, .val (.int w22), .val (.int w23), .unset] [(.int w23), (.int (p1 &&& (65535 : Int32))), (.int (0 : Int32))])) _
    refine XS.isub X10.here hx rfl (hb hby at_174) rfl ?_
    show Steps p.tables e below (T10.setTop (mkF m 175 #[.val (.int p1), .val (.int p2), .val (.long q3), .second, .val (.long q4), .second, .val (.long q5), .second, .val (.int p6), .val (.int (p1 &&& (65535 : Int32))), .val (.int (((p6.toUInt32 >>> ((8 : Int32) &&& 31).toUInt32).toInt32) &&& (255 : Int32))), .val (.int ((p6 &&& (2147483647 : Int32)) % (3 : Int32))), .val (.long (q4 &&& (4611686018427387903 : Int64))), .second, .val (.long (q5 &&& (4611686018427387903 : Int64))), .second, .val (.long w16), .second, .val (.ref b5), .val (.int ((2 : Int32) - ((p6 &&& (2147483647 : Int32)) % (3 : Int32)))), .val (.long (((q4 &&& (4611686018427387903 : Int64)) + (q5 &&& (4611686018427387903 : Int64))) - w16)), .second, .val (.int w22), .val (.int w23), .unset] [(.int ((p1 &&& (65535 : Int32)) - w23)), (.int (0 : Int32))])) _
    refine st15 _ ?_
    show Steps p.tables e below (T15.setTop (mkF m 178 #[.val (.int p1), .val (.int p2), .val (.long q3), .second, .val (.long q4), .second, .val (.long q5), .second, .val (.int p6), .val (.int (p1 &&& (65535 : Int32))), .val (.int (((p6.toUInt32 >>> ((8 : Int32) &&& 31).toUInt32).toInt32) &&& (255 : Int32))), .val (.int ((p6 &&& (2147483647 : Int32)) % (3 : Int32))), .val (.long (q4 &&& (4611686018427387903 : Int64))), .second, .val (.long (q5 &&& (4611686018427387903 : Int64))), .second, .val (.long w16), .second, .val (.ref b5), .val (.int ((2 : Int32) - ((p6 &&& (2147483647 : Int32)) % (3 : Int32)))), .val (.long (((q4 &&& (4611686018427387903 : Int64)) + (q5 &&& (4611686018427387903 : Int64))) - w16)), .second, .val (.int w22), .val (.int w23), .unset] [(.int (own_max (0 : Int32) ((p1 &&& (65535 : Int32)) - w23)))])) _
    refine XS.istore X15.here hx rfl (hb hby at_178) rfl (l' := #[.val (.int p1), .val (.int p2), .val (.long q3), .second, .val (.long q4), .second, .val (.long q5), .second, .val (.int p6), .val (.int (p1 &&& (65535 : Int32))), .val (.int (((p6.toUInt32 >>> ((8 : Int32) &&& 31).toUInt32).toInt32) &&& (255 : Int32))), .val (.int ((p6 &&& (2147483647 : Int32)) % (3 : Int32))), .val (.long (q4 &&& (4611686018427387903 : Int64))), .second, .val (.long (q5 &&& (4611686018427387903 : Int64))), .second, .val (.long w16), .second, .val (.ref b5), .val (.int ((2 : Int32) - ((p6 &&& (2147483647 : Int32)) % (3 : Int32)))), .val (.long (((q4 &&& (4611686018427387903 : Int64)) + (q5 &&& (4611686018427387903 : Int64))) - w16)), .second, .val (.int w22), .val (.int w23), .val (.int (own_max (0 : Int32) ((p1 &&& (65535 : Int32)) - w23)))]) rfl ?_
    show Steps p.tables e below (T15.setTop (mkF m 180 #[.val (.int p1), .val (.int p2), .val (.long q3), .second, .val (.long q4), .second, .val (.long q5), .second, .val (.int p6), .val (.int (p1 &&& (65535 : Int32))), .val (.int (((p6.toUInt32 >>> ((8 : Int32) &&& 31).toUInt32).toInt32) &&& (255 : Int32))), .val (.int ((p6 &&& (2147483647 : Int32)) % (3 : Int32))), .val (.long (q4 &&& (4611686018427387903 : Int64))), .second, .val (.long (q5 &&& (4611686018427387903 : Int64))), .second, .val (.long w16), .second, .val (.ref b5), .val (.int ((2 : Int32) - ((p6 &&& (2147483647 : Int32)) % (3 : Int32)))), .val (.long (((q4 &&& (4611686018427387903 : Int64)) + (q5 &&& (4611686018427387903 : Int64))) - w16)), .second, .val (.int w22), .val (.int w23), .val (.int (own_max (0 : Int32) ((p1 &&& (65535 : Int32)) - w23)))] [])) _
    refine XS.aload X15.here hx rfl (hb hby at_180) rfl rfl ?_
    show Steps p.tables e below (T15.setTop (mkF m 182 #[.val (.int p1), .val (.int p2), .val (.long q3), .second, .val (.long q4), .second, .val (.long q5), .second, .val (.int p6), .val (.int (p1 &&& (65535 : Int32))), .val (.int (((p6.toUInt32 >>> ((8 : Int32) &&& 31).toUInt32).toInt32) &&& (255 : Int32))), .val (.int ((p6 &&& (2147483647 : Int32)) % (3 : Int32))), .val (.long (q4 &&& (4611686018427387903 : Int64))), .second, .val (.long (q5 &&& (4611686018427387903 : Int64))), .second, .val (.long w16), .second, .val (.ref b5), .val (.int ((2 : Int32) - ((p6 &&& (2147483647 : Int32)) % (3 : Int32)))), .val (.long (((q4 &&& (4611686018427387903 : Int64)) + (q5 &&& (4611686018427387903 : Int64))) - w16)), .second, .val (.int w22), .val (.int w23), .val (.int (own_max (0 : Int32) ((p1 &&& (65535 : Int32)) - w23)))] [(.ref b5)])) _
    refine st16.trans ?_
    show Steps p.tables e below (T16.setTop (mkF m 185 #[.val (.int p1), .val (.int p2), .val (.long q3), .second, .val (.long q4), .second, .val (.long q5), .second, .val (.int p6), .val (.int (p1 &&& (65535 : Int32))), .val (.int (((p6.toUInt32 >>> ((8 : Int32) &&& 31).toUInt32).toInt32) &&& (255 : Int32))), .val (.int ((p6 &&& (2147483647 : Int32)) % (3 : Int32))), .val (.long (q4 &&& (4611686018427387903 : Int64))), .second, .val (.long (q5 &&& (4611686018427387903 : Int64))), .second, .val (.long w16), .second, .val (.ref b5), .val (.int ((2 : Int32) - ((p6 &&& (2147483647 : Int32)) % (3 : Int32)))), .val (.long (((q4 &&& (4611686018427387903 : Int64)) + (q5 &&& (4611686018427387903 : Int64))) - w16)), .second, .val (.int w22), .val (.int w23), .val (.int (own_max (0 : Int32) ((p1 &&& (65535 : Int32)) - w23)))] [(.int (own_max (0 : Int32) ((p1 &&& (65535 : Int32)) - (own_held ((((0 : Int32) + ((((p6.toUInt32 >>> ((8 : Int32) &&& 31).toUInt32).toInt32) &&& (255 : Int32)) + (2 : Int32))) - (1 : Int32)) - (1 : Int32)) ((((0 : Int32) + (1 : Int32)) + (1 : Int32)) - ((p6 &&& (2147483647 : Int32)) % (3 : Int32))) p2 ((((0 : Int64) + (q4 &&& (4611686018427387903 : Int64))) + (q5 &&& (4611686018427387903 : Int64))) - w16) q3))))])) _
    refine XS.iload X16.here hx rfl (hb hby at_185) rfl ?_
    show Steps p.tables e below (T16.setTop (mkF m 187 #[.val (.int p1), .val (.int p2), .val (.long q3), .second, .val (.long q4), .second, .val (.long q5), .second, .val (.int p6), .val (.int (p1 &&& (65535 : Int32))), .val (.int (((p6.toUInt32 >>> ((8 : Int32) &&& 31).toUInt32).toInt32) &&& (255 : Int32))), .val (.int ((p6 &&& (2147483647 : Int32)) % (3 : Int32))), .val (.long (q4 &&& (4611686018427387903 : Int64))), .second, .val (.long (q5 &&& (4611686018427387903 : Int64))), .second, .val (.long w16), .second, .val (.ref b5), .val (.int ((2 : Int32) - ((p6 &&& (2147483647 : Int32)) % (3 : Int32)))), .val (.long (((q4 &&& (4611686018427387903 : Int64)) + (q5 &&& (4611686018427387903 : Int64))) - w16)), .second, .val (.int w22), .val (.int w23), .val (.int (own_max (0 : Int32) ((p1 &&& (65535 : Int32)) - w23)))] [(.int (own_max (0 : Int32) ((p1 &&& (65535 : Int32)) - w23))), (.int (own_max (0 : Int32) ((p1 &&& (65535 : Int32)) - (own_held ((((0 : Int32) + ((((p6.toUInt32 >>> ((8 : Int32) &&& 31).toUInt32).toInt32) &&& (255 : Int32)) + (2 : Int32))) - (1 : Int32)) - (1 : Int32)) ((((0 : Int32) + (1 : Int32)) + (1 : Int32)) - ((p6 &&& (2147483647 : Int32)) % (3 : Int32))) p2 ((((0 : Int64) + (q4 &&& (4611686018427387903 : Int64))) + (q5 &&& (4611686018427387903 : Int64))) - w16) q3))))])) _
    refine XS.icmpNo X16.here hx rfl (hb hby at_187) rfl (teq (by rw [hw22, own_u, own_p, own_b] : (own_max (0 : Int32) ((p1 &&& (65535 : Int32)) - (own_held ((((0 : Int32) + ((((p6.toUInt32 >>> ((8 : Int32) &&& 31).toUInt32).toInt32) &&& (255 : Int32)) + (2 : Int32))) - (1 : Int32)) - (1 : Int32)) ((((0 : Int32) + (1 : Int32)) + (1 : Int32)) - ((p6 &&& (2147483647 : Int32)) % (3 : Int32))) p2 ((((0 : Int64) + (q4 &&& (4611686018427387903 : Int64))) + (q5 &&& (4611686018427387903 : Int64))) - w16) q3))) = (own_max (0 : Int32) ((p1 &&& (65535 : Int32)) - w23)))).2 ?_
    show Steps p.tables e below (T16.setTop (mkF m 190 #[.val (.int p1), .val (.int p2), .val (.long q3), .second, .val (.long q4), .second, .val (.long q5), .second, .val (.int p6), .val (.int (p1 &&& (65535 : Int32))), .val (.int (((p6.toUInt32 >>> ((8 : Int32) &&& 31).toUInt32).toInt32) &&& (255 : Int32))), .val (.int ((p6 &&& (2147483647 : Int32)) % (3 : Int32))), .val (.long (q4 &&& (4611686018427387903 : Int64))), .second, .val (.long (q5 &&& (4611686018427387903 : Int64))), .second, .val (.long w16), .second, .val (.ref b5), .val (.int ((2 : Int32) - ((p6 &&& (2147483647 : Int32)) % (3 : Int32)))), .val (.long (((q4 &&& (4611686018427387903 : Int64)) + (q5 &&& (4611686018427387903 : Int64))) - w16)), .second, .val (.int w22), .val (.int w23), .val (.int (own_max (0 : Int32) ((p1 &&& (65535 : Int32)) - w23)))] [])) _
    refine XS.iconst X16.here hx rfl (hb hby at_190) ?_
    show Steps p.tables e below (T16.setTop (mkF m 191 #[.val (.int p1), .val (.int p2), .val (.long q3), .second, .val (.long q4), .second, .val (.long q5), .second, .val (.int p6), .val (.int (p1 &&& (65535 : Int32))), .val (.int (((p6.toUInt32 >>> ((8 : Int32) &&& 31).toUInt32).toInt32) &&& (255 : Int32))), .val (.int ((p6 &&& (2147483647 : Int32)) % (3 : Int32))), .val (.long (q4 &&& (4611686018427387903 : Int64))), .second, .val (.long (q5 &&& (4611686018427387903 : Int64))), .second, .val (.long w16), .second, .val (.ref b5), .val (.int ((2 : Int32) - ((p6 &&& (2147483647 : Int32)) % (3 : Int32)))), .val (.long (((q4 &&& (4611686018427387903 : Int64)) + (q5 &&& (4611686018427387903 : Int64))) - w16)), .second, .val (.int w22), .val (.int w23), .val (.int (own_max (0 : Int32) ((p1 &&& (65535 : Int32)) - w23)))] [(.int (1 : Int32))])) _
    refine XS.goto X16.here hx rfl (pc0 := 191) (pc' := 195) rfl (hb hby at_191) (by decide) (by decide) ?_
    exact k
  obtain ⟨fs, hr, hrun, hended, hW, hsame⟩ := X16.leave (v := some (.int (1 : Int32))) (fun h => by rw [Bd.returns] at h; cases h)
  refine ⟨_, _, pre17 _ ?_, hrun, hended, _, _, rfl, ?_, ⟨_, rfl⟩, hW, hsame.mono (by decide) (by decide)⟩
  · show Steps p.tables e below (T16.setTop (mkF m 195 #[.val (.int p1), .val (.int p2), .val (.long q3), .second, .val (.long q4), .second, .val (.long q5), .second, .val (.int p6), .val (.int (p1 &&& (65535 : Int32))), .val (.int (((p6.toUInt32 >>> ((8 : Int32) &&& 31).toUInt32).toInt32) &&& (255 : Int32))), .val (.int ((p6 &&& (2147483647 : Int32)) % (3 : Int32))), .val (.long (q4 &&& (4611686018427387903 : Int64))), .second, .val (.long (q5 &&& (4611686018427387903 : Int64))), .second, .val (.long w16), .second, .val (.ref b5), .val (.int ((2 : Int32) - ((p6 &&& (2147483647 : Int32)) % (3 : Int32)))), .val (.long (((q4 &&& (4611686018427387903 : Int64)) + (q5 &&& (4611686018427387903 : Int64))) - w16)), .second, .val (.int w22), .val (.int w23), .val (.int (own_max (0 : Int32) ((p1 &&& (65535 : Int32)) - w23)))] [(.int (1 : Int32))])) _
    exact retN X16 hx (t := .boolean) Bd.returns (by simp) (hb hby at_195) hr
  · show own_Q0 Z p1 p2 q3 q4 q5 p6 h0 n0 _ T16.heap _
    rw [e16]
    exact ⟨rfl, N16⟩
set_option maxRecDepth 65536 in
set_option maxHeartbeats 40000000 in
theorem comes_1 {Post : Tables → Env → Array Value → State → Outcome → State → Prop} (hpost : ∀ tb e args s v u, (limb_1_1.after args s (.returned v) u = true ∧ limb_1_2.after args s (.returned v) u = true ∧ True) → FrameEnd s (.returned v) u (Jvm.fieldLocs frame_1_writes args s ++ Jvm.arrayLocs frame_1_arrays args s ++ Jvm.staticLocs frame_1_statics s) 16 128 → Post tb e args s (.returned v) u) :
    ArmFor flags0 classFile x code maxLocals ret World_1 tables_1 room_1 Calls_1 rest_1 Pre_1 Post := by
  intro l hfl _ _ p e ha hc hk s m args below hf hA hF happ hP
  obtain ⟨hcalls, hrest, hpre⟩ := hP
  obtain ⟨-, -, -, hnamed, -, -, -, hat⟩ := (Spec.applies_iff hf).mp happ
  obtain ⟨hg, hn⟩ := and_e (Cond.before_iff.mp (show (Jvm.Cond.and given_1 narrow_1).before args s = true from hpre))
  obtain ⟨hg2, hg3⟩ := and_e hg
  obtain ⟨hg4, hg5⟩ := and_e hg3
  obtain ⟨hg6, hg7⟩ := and_e hg5
  obtain ⟨hg8, hg9⟩ := and_e hg7
  obtain ⟨hg10, hg11⟩ := and_e hg9
  obtain ⟨hg12, hg13⟩ := and_e hg11
  obtain ⟨w0, w1, w2, w3, w4, w5, rfl⟩ : ∃ w0 w1 w2 w3 w4 w5 : Value, args = #[w0, w1, w2, w3, w4, w5] := by
    have hs : args.size = 6 := by simpa [Cond.value, given_1] using hg2
    obtain ⟨L⟩ := args
    match L, hs with
    | [w0, w1, w2, w3, w4, w5], _ => exact ⟨w0, w1, w2, w3, w4, w5, rfl⟩
  have hw := fun d (hd : d ∈ tables_1) => atoms_spec (ws := Jvm.Cond.code x code maxLocals ret :: tables_1) hat d (List.mem_cons_of_mem _ hd)
  obtain ⟨i0, ei0⟩ := is_v hg4
  obtain rfl : w0 = (.int i0) := Option.some.inj ei0
  obtain ⟨i1, ei1⟩ := is_v hg6
  obtain rfl : w1 = (.int i1) := Option.some.inj ei1
  obtain ⟨i2, ei2⟩ := isL_v hg8
  obtain rfl : w2 = (.long i2) := Option.some.inj ei2
  obtain ⟨i3, ei3⟩ := isL_v hg10
  obtain rfl : w3 = (.long i3) := Option.some.inj ei3
  obtain ⟨i4, ei4⟩ := isL_v hg12
  obtain rfl : w4 = (.long i4) := Option.some.inj ei4
  obtain ⟨i5, ei5⟩ := is_v hg13
  obtain rfl : w5 = (.int i5) := Option.some.inj ei5
  obtain ⟨n, o, h1, h2, h3, _, L, rfl, ⟨rfl, N⟩, hq⟩ := rm0 l s _ hw tables_1 i0 i1 i2 i3 i4 i5  s.heap s.heap.size (Nat.le_refl _)  p e ha hc hk s m _ below hf ((Spec.applies_iff_loose hf).mp happ).1 ⟨rfl, State.Warmed39.refl s, rfl⟩ trivial
  refine ⟨n, _, h1, h2, h3, hpost _ _ _ _ _ _ ⟨Cond.after_iff.mpr rfl, Cond.after_iff.mpr (eq_i res_at (Term.int_eval (1)) rfl), trivial⟩ ⟨hq.1, hq.2.1, (hq.2.2.sift fun y hy => Or.inr (N y hy)).mono (by decide) (by decide)⟩⟩
theorem main_1_1 : Claimed_1_1 := comes_1 fun _ _ _ _ _ _ h hF => ⟨h.1, hF⟩
theorem main_1_2 : Claimed_1_2 := comes_1 fun _ _ _ _ _ _ h hF => ⟨h.2.1, hF⟩
end Jvm.Pilot.@@N@@
namespace Jvm.Pilot.@@N@@
open Jvm Jvm.ClassFile Sem Op Lib Jvm.Free Jvm.Stand Jvm.Pilot.@@N@@.Jvm.D
/-! MADE BY PROGRAM (witnessworld.py) out of the Statement's table words and the real class files: 10 classes; the members and pool entries that the words name. The judged class is class 1, her method 1. -/
namespace start1
open Jvm.ClassFile
def u (s : String) : CpInfo := .utf8 (stringToUtf16 s)
/-- a pool by its gaps: so many unusable entries, then the entry; so many at the end -/
def gap : Nat → List CpInfo → List CpInfo
  | 0, r => r
  | n + 1, r => .unusable :: gap n r
def poolList (es : List (Nat × CpInfo)) (last : Nat) : List CpInfo := es.foldr (fun e r => gap e.1 (e.2 :: r)) (gap last [])
def pool (es : List (Nat × CpInfo)) (last : Nat) : Array CpInfo := ⟨poolList es last⟩
def fileOf (pool : Array CpInfo) (this : Nat) (attrs : Array Attribute := #[]) (ms : Array MethodInfo := #[]) (fl : Nat := 33) (sup : Nat := 0) (ifs : Array Nat := #[]) (fds : Array FieldInfo := #[]) : ClassFile where
  minorVersion := 0
  majorVersion := 65
  constantPool := pool
  accessFlags := fl
  thisClass := this
  superClass := sup
  interfaces := ifs
  fields := fds
  methods := ms
  attributes := attrs
def plain (name : String) (sup : Option ClassId) : Class where
  name := name
  kind := .ordinary
  loader := none
  accessFlags := 33
  super := sup
  interfaces := #[]
  cf := none
  fields := #[]
  methods := #[]
  instanceTypes := #[]
  staticTypes := #[]
  resolved := #[]
  callSites := []
  init := .initialized
  statics := none
  mirror := none

def pool0 : Array CpInfo := pool [(5, u "<init>"), (0, u "()V"), (1, .class_ 10), (1, u "java/lang/Object")] 113

def k0c0 : Code := { maxStack := 0, maxLocals := 1, code := object_method_1_code, exceptionTable := #[], attributes := #[] }
def k0m0 : Method := { name := "<init>", desc := "()V", sig := { parameters := [], returnType := none }, accessFlags := 1, code := some k0c0 }
/-- java/lang/Object -/
def k0 : Class := { plain "java/lang/Object" none with
  accessFlags := 33
  interfaces := #[]
  cf := some (fileOf pool0 8 #[] #[{ accessFlags := 1, nameIndex := 5, descriptorIndex := 6, attributes := #[] }] 33 0 #[] #[])
  fields := #[]
  methods := #[k0m0]
  instanceTypes := #[]
  staticTypes := #[]
  resolved := Array.replicate 124 none
  statics := none }

def pool1 : Array CpInfo := pool [(2, .class_ 4), (1, u "java/lang/Object"), (0, u "<init>"), (0, u "()V"), (0, .integer 65535), (0, .integer 2147483647), (0, .long 4611686018427387903), (1, .class_ 12), (0, u "com/example/leafcutter/leafcutter/LeaseRoom"), (0, .methodref 11 14), (0, .nameAndType 5 15), (0, u "(IIJ)V"), (0, .methodref 11 17), (0, .nameAndType 18 19), (0, u "ask"), (0, u "(I)V"), (0, .methodref 11 21), (0, .nameAndType 22 23), (0, u "finish"), (0, u "(J)Z"), (0, .methodref 11 25), (0, .nameAndType 26 27), (0, u "posted"), (0, u "(IJ)V"), (0, .methodref 29 30), (0, .class_ 31), (0, .nameAndType 32 33), (0, u "java/lang/Math"), (0, u "max"), (0, u "(II)I"), (0, .methodref 11 35), (0, .nameAndType 36 37), (0, u "room"), (0, u "()I"), (0, .class_ 39), (0, u "com/example/leafcutter/leafcutter/LeaseRoomPostedPinLaw"), (2, u "law"), (0, u "(IIJJJI)Z")] 3

def k1m0 : Method := { name := "<init>", desc := "()V", sig := { parameters := [], returnType := none }, accessFlags := 1, code := none }
def k1c1 : Code := { maxStack := 6, maxLocals := 25, code := code, exceptionTable := #[], attributes := #[] }
def k1m1 : Method := { name := "law", desc := "(IIJJJI)Z", sig := { parameters := [.int, .int, .long, .long, .long, .int], returnType := some .boolean }, accessFlags := 9, code := some k1c1 }
/-- com/example/leafcutter/leafcutter/LeaseRoomPostedPinLaw -/
def k1 : Class := { plain "com/example/leafcutter/leafcutter/LeaseRoomPostedPinLaw" (some 0) with
  accessFlags := 49
  interfaces := #[]
  cf := some (fileOf pool1 38 #[] #[{ accessFlags := 1, nameIndex := 5, descriptorIndex := 6, attributes := #[] }, { accessFlags := 9, nameIndex := 42, descriptorIndex := 43, attributes := #[] }] 49 2 #[] #[])
  fields := #[]
  methods := #[k1m0, k1m1]
  instanceTypes := #[]
  staticTypes := #[]
  resolved := Array.replicate 47 none
  statics := none }

def pool2 : Array CpInfo := pool [(1, .methodref 2 3), (0, .class_ 4), (0, .nameAndType 5 6), (0, u "java/lang/Object"), (0, u "<init>"), (0, u "()V"), (0, .fieldref 8 9), (0, .class_ 10), (0, .nameAndType 11 12), (0, u "com/example/leafcutter/leafcutter/LeaseRoom"), (0, u "mCapacity"), (0, u "I"), (0, .fieldref 8 14), (0, .nameAndType 15 12), (0, u "mFreeResults"), (0, .fieldref 8 17), (0, .nameAndType 18 19), (0, u "mFreeOutputBytes"), (0, u "J"), (0, .fieldref 8 21), (0, .nameAndType 22 12), (0, u "mUnposted"), (0, .fieldref 8 24), (0, .nameAndType 25 19), (0, u "mUnpostedBytes"), (0, .fieldref 8 27), (0, .nameAndType 28 12), (0, u "mUnfinished"), (0, .methodref 30 31), (0, .class_ 32), (0, .nameAndType 33 34), (0, u "java/lang/Math"), (0, u "max"), (0, u "(II)I"), (0, .methodref 8 36), (0, .nameAndType 37 38), (0, u "room"), (0, u "()I"), (0, u "(IIJ)V"), (3, u "ask"), (0, u "(I)V"), (1, u "finish"), (0, u "(J)Z"), (0, u "posted"), (0, u "(IJ)V")] 2

def k2c0 : Code := { maxStack := 3, maxLocals := 5, code := prog_27_method_1_code, exceptionTable := #[], attributes := #[] }
def k2m0 : Method := { name := "<init>", desc := "(IIJ)V", sig := { parameters := [.int, .int, .long], returnType := none }, accessFlags := 0, code := some k2c0 }
def k2c1 : Code := { maxStack := 4, maxLocals := 3, code := prog_27_method_2_code, exceptionTable := #[], attributes := #[] }
def k2m1 : Method := { name := "room", desc := "()I", sig := { parameters := [], returnType := some .int }, accessFlags := 0, code := some k2c1 }
def k2c2 : Code := { maxStack := 3, maxLocals := 2, code := prog_27_method_3_code, exceptionTable := #[], attributes := #[] }
def k2m2 : Method := { name := "ask", desc := "(I)V", sig := { parameters := [.int], returnType := none }, accessFlags := 0, code := some k2c2 }
def k2c3 : Code := { maxStack := 5, maxLocals := 4, code := prog_27_method_5_code, exceptionTable := #[], attributes := #[] }
def k2m3 : Method := { name := "finish", desc := "(J)Z", sig := { parameters := [.long], returnType := some .boolean }, accessFlags := 0, code := some k2c3 }
def k2c4 : Code := { maxStack := 5, maxLocals := 4, code := prog_27_method_6_code, exceptionTable := #[], attributes := #[] }
def k2m4 : Method := { name := "posted", desc := "(IJ)V", sig := { parameters := [.int, .long], returnType := none }, accessFlags := 0, code := some k2c4 }
/-- com/example/leafcutter/leafcutter/LeaseRoom -/
def k2 : Class := { plain "com/example/leafcutter/leafcutter/LeaseRoom" (some 0) with
  accessFlags := 32
  interfaces := #[]
  cf := some (fileOf pool2 8 #[] #[{ accessFlags := 0, nameIndex := 5, descriptorIndex := 39, attributes := #[] }, { accessFlags := 0, nameIndex := 37, descriptorIndex := 38, attributes := #[] }, { accessFlags := 0, nameIndex := 43, descriptorIndex := 44, attributes := #[] }, { accessFlags := 0, nameIndex := 46, descriptorIndex := 47, attributes := #[] }, { accessFlags := 0, nameIndex := 48, descriptorIndex := 49, attributes := #[] }] 32 2 #[] #[{ accessFlags := 18, nameIndex := 11, descriptorIndex := 12, attributes := #[] }, { accessFlags := 18, nameIndex := 15, descriptorIndex := 12, attributes := #[] }, { accessFlags := 18, nameIndex := 18, descriptorIndex := 19, attributes := #[] }, { accessFlags := 2, nameIndex := 28, descriptorIndex := 12, attributes := #[] }, { accessFlags := 2, nameIndex := 22, descriptorIndex := 12, attributes := #[] }, { accessFlags := 2, nameIndex := 25, descriptorIndex := 19, attributes := #[] }])
  fields := #[{ name := "mCapacity", type := .int, accessFlags := 18, slot := 0, constantValue := 0 }, { name := "mFreeResults", type := .int, accessFlags := 18, slot := 1, constantValue := 0 }, { name := "mFreeOutputBytes", type := .long, accessFlags := 18, slot := 2, constantValue := 0 }, { name := "mUnfinished", type := .int, accessFlags := 2, slot := 3, constantValue := 0 }, { name := "mUnposted", type := .int, accessFlags := 2, slot := 4, constantValue := 0 }, { name := "mUnpostedBytes", type := .long, accessFlags := 2, slot := 5, constantValue := 0 }]
  methods := #[k2m0, k2m1, k2m2, k2m3, k2m4]
  instanceTypes := #[.int, .int, .long, .int, .int, .long]
  staticTypes := #[]
  resolved := Array.replicate 52 none
  statics := none }

def pool3 : Array CpInfo := pool [(1, .class_ 2), (0, u "java/lang/Math"), (1, .class_ 6), (1, u "java/lang/Object"), (0, u "<init>"), (0, u "()V"), (89, .class_ 100), (1, u "java/lang/Math$RandomNumberGeneratorHolder"), (71, u "negativeZeroFloatBits"), (0, u "J"), (2, u "negativeZeroDoubleBits"), (21, u "max"), (46, u "$assertionsDisabled"), (0, u "Z"), (88, u "(II)I"), (2, u "twoToTheDoubleScaleDown"), (0, u "D"), (4, u "twoToTheDoubleScaleUp"), (9, u "E"), (3, u "PI"), (2, u "TAU"), (2, u "DEGREES_TO_RADIANS"), (0, u "RADIANS_TO_DEGREES")] 94

def k3m0 : Method := { name := "<init>", desc := "()V", sig := { parameters := [], returnType := none }, accessFlags := 2, code := none }
def k3c1 : Code := { maxStack := 2, maxLocals := 2, code := jdk_29_method_65_code, exceptionTable := #[], attributes := #[] }
def k3m1 : Method := { name := "max", desc := "(II)I", sig := { parameters := [.int, .int], returnType := some .int }, accessFlags := 9, code := some k3c1 }
/-- java/lang/Math -/
def k3 : Class := { plain "java/lang/Math" (some 0) with
  accessFlags := 49
  interfaces := #[]
  cf := some (fileOf pool3 1 #[.nestMembers #[98]] #[{ accessFlags := 2, nameIndex := 7, descriptorIndex := 8, attributes := #[] }, { accessFlags := 9, nameIndex := 198, descriptorIndex := 335, attributes := #[] }] 49 4 #[] #[{ accessFlags := 25, nameIndex := 354, descriptorIndex := 339, attributes := #[] }, { accessFlags := 25, nameIndex := 358, descriptorIndex := 339, attributes := #[] }, { accessFlags := 25, nameIndex := 361, descriptorIndex := 339, attributes := #[] }, { accessFlags := 26, nameIndex := 364, descriptorIndex := 339, attributes := #[] }, { accessFlags := 26, nameIndex := 365, descriptorIndex := 339, attributes := #[] }, { accessFlags := 26, nameIndex := 172, descriptorIndex := 173, attributes := #[] }, { accessFlags := 26, nameIndex := 176, descriptorIndex := 173, attributes := #[] }, { accessFlags := 8, nameIndex := 344, descriptorIndex := 339, attributes := #[] }, { accessFlags := 8, nameIndex := 338, descriptorIndex := 339, attributes := #[] }, { accessFlags := 4120, nameIndex := 245, descriptorIndex := 246, attributes := #[] }])
  fields := #[{ name := "E", type := .double, accessFlags := 25, slot := 0, constantValue := 0 }, { name := "PI", type := .double, accessFlags := 25, slot := 1, constantValue := 0 }, { name := "TAU", type := .double, accessFlags := 25, slot := 2, constantValue := 0 }, { name := "DEGREES_TO_RADIANS", type := .double, accessFlags := 26, slot := 3, constantValue := 0 }, { name := "RADIANS_TO_DEGREES", type := .double, accessFlags := 26, slot := 4, constantValue := 0 }, { name := "negativeZeroFloatBits", type := .long, accessFlags := 26, slot := 5, constantValue := 0 }, { name := "negativeZeroDoubleBits", type := .long, accessFlags := 26, slot := 6, constantValue := 0 }, { name := "twoToTheDoubleScaleUp", type := .double, accessFlags := 8, slot := 7, constantValue := 0 }, { name := "twoToTheDoubleScaleDown", type := .double, accessFlags := 8, slot := 8, constantValue := 0 }, { name := "$assertionsDisabled", type := .boolean, accessFlags := 4120, slot := 9, constantValue := 0 }]
  methods := #[k3m0, k3m1]
  instanceTypes := #[]
  staticTypes := #[.double, .double, .double, .double, .double, .long, .long, .double, .double, .boolean]
  resolved := Array.replicate 460 none
  statics := none }

def pool4 : Array CpInfo := pool [(1, u "java/lang/Cloneable"), (0, .class_ 1), (0, u "java/lang/Object"), (0, .class_ 3)] 3

/-- java/lang/Cloneable -/
def k4 : Class := { plain "java/lang/Cloneable" (some 0) with
  accessFlags := 1537
  interfaces := #[]
  cf := some (fileOf pool4 2 #[] #[] 1537 4 #[] #[])
  fields := #[]
  methods := #[]
  instanceTypes := #[]
  staticTypes := #[]
  resolved := Array.replicate 8 none
  statics := none }

def pool5 : Array CpInfo := pool [(1, u "java/io/Serializable"), (0, .class_ 1), (0, u "java/lang/Object"), (0, .class_ 3)] 3

/-- java/io/Serializable -/
def k5 : Class := { plain "java/io/Serializable" (some 0) with
  accessFlags := 1537
  interfaces := #[]
  cf := some (fileOf pool5 2 #[] #[] 1537 4 #[] #[])
  fields := #[]
  methods := #[]
  instanceTypes := #[]
  staticTypes := #[]
  resolved := Array.replicate 8 none
  statics := none }

/-- the primitive byte -/
def k6 : Class := { plain "byte" none with kind := .primitive 'B', accessFlags := 0x411 }
/-- [B -/
def k7 : Class := { plain "[B" (some 0) with kind := .array 6 .byte, interfaces := #[4, 5], accessFlags := 1041 }

/-- the primitive int -/
def k8 : Class := { plain "int" none with kind := .primitive 'I', accessFlags := 0x411 }
/-- [I -/
def k9 : Class := { plain "[I" (some 0) with kind := .array 8 .int, interfaces := #[4, 5], accessFlags := 1041 }

def heap : Heap := #[]
def classes : Array Class := #[k0, k1, k2, k3, k4, k5, k6, k7, k8, k9]
def interned : List (Array UInt16 × Addr) := []
def slotsUsed : Nat := 0
def theMethod : MethodId := ⟨1, 1⟩
def args0 : Array Value := #[.int 5, .int 7, .long 1, .long 2, .long 3, .int 4]
def aboutOver (below : List Frame) : State where
  vm := { classes := classes, interned := interned.toArray }
  heap := heap
  slotsUsed := slotsUsed
  threads := #[{ frames := .invoking theMethod args0 :: below }]
def below0 : List Frame := [.native { method := ⟨0, 0⟩, args := #[] }]
def about1 : State := aboutOver below0
def p0 : Program := .bare "" "" ""
def e0 : Env := launch0.env 0 0 0
theorem w_frames : about1.frames = Frame.invoking theMethod args0 :: below0 := rfl
set_option maxRecDepth 65536 in
theorem w_args : argsFit about1.vm theMethod args0 = true := by decide +kernel
set_option maxRecDepth 65536 in
theorem w_heap : heapFits about1 = true := by decide +kernel
set_option maxRecDepth 65536 in
theorem w_runnable : about1.curStatus? = some .runnable := by decide +kernel
set_option maxRecDepth 65536 in
theorem w_alone : about1.alone = true := by decide +kernel
set_option maxRecDepth 65536 in
theorem w_named : about1.methodNamed? x = some theMethod := by decide +kernel
set_option maxRecDepth 65536 in
theorem w_hears : about1.hears theMethod below0 = true := by decide +kernel
set_option maxRecDepth 65536 in
theorem w_ripe : about1.ripe theMethod args0 below0 = true := by decide +kernel
theorem w_running : about1.status = .running := rfl
set_option maxRecDepth 65536 in
theorem w_room : about1.hasRoom e0.platform room_1 = true :=
  launch0.hasRoom_least _ room_1 (by decide +kernel) (by decide +kernel) (by decide +kernel) (by decide +kernel) (by decide +kernel) (by decide +kernel)
theorem allAtoms_all (ts : List Jvm.Cond) (a : Array Jvm.Value) (st : Jvm.State) : (allAtoms ts).before a st = ts.all (fun c => c.before a st) := by
  induction ts with
  | nil => rfl
  | cons c t ih =>
    show (Jvm.Cond.and c (allAtoms t)).before a st = _
    rw [Jvm.Cond.before_and, ih, List.all_cons]
def words1 : List Jvm.Cond := Jvm.Cond.code x code maxLocals ret :: tables_1
/-- a 'code' word, met by the world's own term for the bytes: nothing is compared byte by byte -/
theorem code_word {y : MethodName} {bytes : ByteArray} {mx : Nat} {rt : Option FieldType} {a : Array Value} {s : State} {m : MethodId} {meth : Method} {c : Code} (h1 : s.methodNamed? y = some m) (h2 : s.vm.method? m = some meth) (h3 : meth.code = some c) (h4 : c.code = bytes)
    (h5 : (c.maxLocals == mx && c.exceptionTable.isEmpty && decide (c.maxStack ≤ mostOperands) && decide (meth.sig.returnType = rt) && !meth.locks && decide (parseMethodDescriptor y.desc = some meth.sig)) = true) : (Jvm.Cond.code y bytes mx rt).before a s = true := by
  simp only [Bool.and_eq_true, beq_iff_eq, Bool.not_eq_true', decide_eq_true_eq] at h5
  obtain ⟨⟨⟨⟨⟨g1, g2⟩, g3⟩, g4⟩, g5⟩, g6⟩ := h5
  simp [Cond.before, Cond.holds, Cond.value, h1, h2, h3, h4, g1, g2, g3, g4, g5, g6]
def isCode : Jvm.Cond → Bool
  | .code _ _ _ _ => true
  | _ => false
theorem all_split {L : List Jvm.Cond} {P : Jvm.Cond → Bool} (h1 : L.all (fun c => isCode c || P c) = true) (h2 : ∀ c ∈ L.filter isCode, P c = true) : L.all P = true := by
  refine List.all_eq_true.mpr fun c hc => ?_
  have h := List.all_eq_true.mp h1 c hc
  rcases Bool.eq_false_or_eq_true (isCode c) with hi | hi
  · exact h2 c (List.mem_filter.mpr ⟨hc, hi⟩)
  · simpa [hi] using h
set_option maxRecDepth 65536 in
theorem w_c0 : (Jvm.Cond.code x code maxLocals ret).before args0 about1 = true := code_word (m := ⟨1, 1⟩) (meth := k1m1) (c := k1c1) (by decide +kernel) rfl rfl rfl (by decide +kernel)
set_option maxRecDepth 65536 in
theorem w_c1 : (Jvm.Cond.code ({ cls := "com/example/leafcutter/leafcutter/LeaseRoom", name := "<init>", desc := "(IIJ)V" } : Jvm.MethodName) prog_27_method_1_code (5 : Nat) (Option.none : Option Jvm.ClassFile.FieldType)).before args0 about1 = true := code_word (m := ⟨2, 0⟩) (meth := k2m0) (c := k2c0) (by decide +kernel) rfl rfl rfl (by decide +kernel)
set_option maxRecDepth 65536 in
theorem w_c2 : (Jvm.Cond.code ({ cls := "java/lang/Object", name := "<init>", desc := "()V" } : Jvm.MethodName) object_method_1_code (1 : Nat) (Option.none : Option Jvm.ClassFile.FieldType)).before args0 about1 = true := code_word (m := ⟨0, 0⟩) (meth := k0m0) (c := k0c0) (by decide +kernel) rfl rfl rfl (by decide +kernel)
set_option maxRecDepth 65536 in
theorem w_c3 : (Jvm.Cond.code ({ cls := "com/example/leafcutter/leafcutter/LeaseRoom", name := "ask", desc := "(I)V" } : Jvm.MethodName) prog_27_method_3_code (2 : Nat) (Option.none : Option Jvm.ClassFile.FieldType)).before args0 about1 = true := code_word (m := ⟨2, 2⟩) (meth := k2m2) (c := k2c2) (by decide +kernel) rfl rfl rfl (by decide +kernel)
set_option maxRecDepth 65536 in
theorem w_c4 : (Jvm.Cond.code ({ cls := "com/example/leafcutter/leafcutter/LeaseRoom", name := "finish", desc := "(J)Z" } : Jvm.MethodName) prog_27_method_5_code (4 : Nat) (Option.some Jvm.ClassFile.FieldType.boolean)).before args0 about1 = true := code_word (m := ⟨2, 3⟩) (meth := k2m3) (c := k2c3) (by decide +kernel) rfl rfl rfl (by decide +kernel)
set_option maxRecDepth 65536 in
theorem w_c5 : (Jvm.Cond.code ({ cls := "com/example/leafcutter/leafcutter/LeaseRoom", name := "room", desc := "()I" } : Jvm.MethodName) prog_27_method_2_code (3 : Nat) (Option.some Jvm.ClassFile.FieldType.int)).before args0 about1 = true := code_word (m := ⟨2, 1⟩) (meth := k2m1) (c := k2c1) (by decide +kernel) rfl rfl rfl (by decide +kernel)
set_option maxRecDepth 65536 in
theorem w_c6 : (Jvm.Cond.code ({ cls := "java/lang/Math", name := "max", desc := "(II)I" } : Jvm.MethodName) jdk_29_method_65_code (2 : Nat) (Option.some Jvm.ClassFile.FieldType.int)).before args0 about1 = true := code_word (m := ⟨3, 1⟩) (meth := k3m1) (c := k3c1) (by decide +kernel) rfl rfl rfl (by decide +kernel)
set_option maxRecDepth 65536 in
theorem w_c7 : (Jvm.Cond.code ({ cls := "com/example/leafcutter/leafcutter/LeaseRoom", name := "posted", desc := "(IJ)V" } : Jvm.MethodName) prog_27_method_6_code (4 : Nat) (Option.none : Option Jvm.ClassFile.FieldType)).before args0 about1 = true := code_word (m := ⟨2, 4⟩) (meth := k2m4) (c := k2c4) (by decide +kernel) rfl rfl rfl (by decide +kernel)
def codes1 : List Jvm.Cond := [Jvm.Cond.code x code maxLocals ret, Jvm.Cond.code ({ cls := "com/example/leafcutter/leafcutter/LeaseRoom", name := "<init>", desc := "(IIJ)V" } : Jvm.MethodName) prog_27_method_1_code (5 : Nat) (Option.none : Option Jvm.ClassFile.FieldType), Jvm.Cond.code ({ cls := "java/lang/Object", name := "<init>", desc := "()V" } : Jvm.MethodName) object_method_1_code (1 : Nat) (Option.none : Option Jvm.ClassFile.FieldType), Jvm.Cond.code ({ cls := "com/example/leafcutter/leafcutter/LeaseRoom", name := "ask", desc := "(I)V" } : Jvm.MethodName) prog_27_method_3_code (2 : Nat) (Option.none : Option Jvm.ClassFile.FieldType), Jvm.Cond.code ({ cls := "com/example/leafcutter/leafcutter/LeaseRoom", name := "finish", desc := "(J)Z" } : Jvm.MethodName) prog_27_method_5_code (4 : Nat) (Option.some Jvm.ClassFile.FieldType.boolean), Jvm.Cond.code ({ cls := "com/example/leafcutter/leafcutter/LeaseRoom", name := "room", desc := "()I" } : Jvm.MethodName) prog_27_method_2_code (3 : Nat) (Option.some Jvm.ClassFile.FieldType.int), Jvm.Cond.code ({ cls := "java/lang/Math", name := "max", desc := "(II)I" } : Jvm.MethodName) jdk_29_method_65_code (2 : Nat) (Option.some Jvm.ClassFile.FieldType.int), Jvm.Cond.code ({ cls := "com/example/leafcutter/leafcutter/LeaseRoom", name := "posted", desc := "(IJ)V" } : Jvm.MethodName) prog_27_method_6_code (4 : Nat) (Option.none : Option Jvm.ClassFile.FieldType)]
set_option maxRecDepth 65536 in
theorem codes_eq : words1.filter isCode = codes1 := rfl
theorem w_codes : ∀ c ∈ words1.filter isCode, c.before args0 about1 = true := by
  rw [codes_eq]
  intro c hc
  simp only [codes1, List.mem_cons, List.not_mem_nil, or_false] at hc
  rcases hc with rfl | rfl | rfl | rfl | rfl | rfl | rfl | rfl
  · exact w_c0
  · exact w_c1
  · exact w_c2
  · exact w_c3
  · exact w_c4
  · exact w_c5
  · exact w_c6
  · exact w_c7
set_option maxRecDepth 65536 in
theorem w_t1 : (words1.take 24).all (fun c => isCode c || c.before args0 about1) = true := by decide +kernel
set_option maxRecDepth 65536 in
theorem w_t2 : ((words1.drop 24).take 24).all (fun c => isCode c || c.before args0 about1) = true := by decide +kernel
set_option maxRecDepth 65536 in
theorem w_t3 : ((words1.drop 24).drop 24).all (fun c => isCode c || c.before args0 about1) = true := by decide +kernel
theorem w_tables : (allAtoms (Jvm.Cond.code x code maxLocals ret :: tables_1)).before args0 about1 = true := by
  rw [allAtoms_all]
  show words1.all (fun c => c.before args0 about1) = true
  refine all_split ?_ w_codes
  rw [← List.take_append_drop 24 words1, List.all_append, w_t1, ← List.take_append_drop 24 (words1.drop 24), List.all_append, w_t2, w_t3]
  rfl
set_option maxRecDepth 65536 in
theorem w_case : (Jvm.Cond.and given_1 narrow_1).before args0 about1 = true := by decide +kernel
theorem w_applies : (headSpec (Jvm.Cond.code x code maxLocals ret :: tables_1) room_1).applies x e0.platform about1 = true :=
  (Spec.applies_iff w_frames).mpr ⟨w_running, w_runnable, w_alone, w_named, w_hears, w_ripe, w_room, w_tables⟩
theorem atStart : AtStart classFile x code maxLocals ret World_1 tables_1 room_1 Calls_1 rest_1 Pre_1 launch0 p0 e0 about1 theMethod args0 below0 :=
  ⟨lists_1, trivial, launch0.admits_env _ _ _, launch0.least_env, fairChoices_fair.cas, fairChoices_fair.clock, w_frames, w_args, w_heap, w_applies, trivial, trivial, w_case⟩
end start1
theorem witness_1 : WitnessClaimed_1 := ⟨start1.p0, start1.e0, start1.about1, start1.theMethod, start1.args0, start1.below0, start1.atStart⟩
end Jvm.Pilot.@@N@@
