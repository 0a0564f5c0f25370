import JvmDerived
import JvmDerived.Pilot.@@N@@Statement
import JvmDerived.Pilot.@@N@@Code
set_option linter.unusedVariables false
set_option linter.unusedSimpArgs false
namespace Jvm.RoadKit
open Sem ClassFile Op Lib Jvm.Stand Jvm.Free Jvm.LawKit
section New
variable {p : Program} {l : Launch} {e : Env} {R : Room} {s : State} {m : MethodId} {args : Array Value} {below : List Frame} {meth : Method} {c : Code} {T : State} {locs : List Loc} {cells slots : Nat}
theorem retI (X : Stand p l e R s m args below meth c T locs cells slots) (hx : p.tables.exec = Jvm.exec) {pc : Nat} {Ls : Array Slot} {z : Int32} {rest : List Value} (hret : meth.sig.returnType = some .int) (hd : decode c.code pc = .ok (.ireturn, 1)) {fs : List Frame}
    (hl : ∀ (f : JFrame) (acts : List Action), f.method = m → f.locked = none → f.entered = [] → (doReturn e (T.setTop f) acts (some (.int z))).1 = T.setFrames fs) : Steps p.tables e below (T.setTop (mkF m pc Ls (.int z :: rest))) (T.setFrames fs) := by
  have hm' : T.vm.method? m = some meth := X.method'
  have hn : narrow .int (.int z) = .int z := rfl
  show Steps p.tables e below (T.setTop { method := m, pc := pc, locals := Ls, stack := _ :: rest, locked := none }) _
  jvm_step X.here [X.here.top, hx, hd, hm', hret, hn]
  first | (intro acts; rw [hl _ acts rfl rfl rfl]) | rw [hl _ _ rfl rfl rfl]
  exact Steps.refl _
end New
end Jvm.RoadKit
namespace Jvm.Pilot.@@N@@
open Jvm Jvm.ClassFile Sem Op Lib Jvm.Free Jvm.Stand Jvm.LawKit Jvm.RoadKit Bundle Jvm.Pilot.@@N@@.Jvm.D
theorem own_lt (a b : Int32) : a < b ↔ a.toInt < b.toInt := Int32.lt_iff_toInt_lt
theorem own_eq (a b : Int32) : a = b ↔ a.toInt = b.toInt := Int32.toInt_inj.symm
theorem own_getI (l : List Int32) (k : Nat) : (l.map Value.int).getD k (.int 0) = .int (l.getD k 0) := by
  induction l generalizing k with
  | nil => rfl
  | cons a t ih => cases k with
    | zero => rfl
    | succ k => exact ih k
theorem own_nv {z : Int32} (h : z = 0 ∨ z = 1) : narrow .boolean (.int z) = .int z := by rcases h with rfl | rfl <;> rfl
theorem own_fitb {z : Int32} (h : z = 0 ∨ z = 1) : fits .boolean (.int z) = true := by rcases h with rfl | rfl <;> rfl
theorem own_nar {z : Int32} (h : z = 0 ∨ z = 1) : nar .boolean z = z := by rcases h with rfl | rfl <;> rfl
theorem own_on : ∀ k : Fin 25, ∀ j : Fin 25, Int32.ofNat k.1 = Int32.ofNat j.1 → k.1 = j.1 := by decide +kernel
theorem own_tne {Z : State} {tt : Nat → Addr} (OR : ∀ k, k < 25 → Fld Z Z.heap (tt k) "java/lang/Enum" "ordinal" "I" (.int (Int32.ofNat k))) {k j : Nat} (hk : k < 25) (hj : j < 25) (h : ¬ k = j) : ¬ tt k = tt j :=
  Fld.ne (OR k hk) (OR j hj) fun q => h (own_on ⟨k, hk⟩ ⟨j, hj⟩ (Value.int.inj q))
theorem own_tab (tt : Nat → Addr) : ∀ k, k < 25 → ([(.ref (tt 0)), (.ref (tt 1)), (.ref (tt 2)), (.ref (tt 3)), (.ref (tt 4)), (.ref (tt 5)), (.ref (tt 6)), (.ref (tt 7)), (.ref (tt 8)), (.ref (tt 9)), (.ref (tt 10)), (.ref (tt 11)), (.ref (tt 12)), (.ref (tt 13)), (.ref (tt 14)), (.ref (tt 15)), (.ref (tt 16)), (.ref (tt 17)), (.ref (tt 18)), (.ref (tt 19)), (.ref (tt 20)), (.ref (tt 21)), (.ref (tt 22)), (.ref (tt 23)), (.ref (tt 24))] : List Value).getD k .null = .ref (tt k) := fun | 0, _ => rfl | 1, _ => rfl | 2, _ => rfl | 3, _ => rfl | 4, _ => rfl | 5, _ => rfl | 6, _ => rfl | 7, _ => rfl | 8, _ => rfl | 9, _ => rfl | 10, _ => rfl | 11, _ => rfl | 12, _ => rfl | 13, _ => rfl | 14, _ => rfl | 15, _ => rfl | 16, _ => rfl | 17, _ => rfl | 18, _ => rfl | 19, _ => rfl | 20, _ => rfl | 21, _ => rfl | 22, _ => rfl | 23, _ => rfl | 24, _ => rfl | n + 25, h => absurd h (by omega)
def own_p (k : Nat) : Option Nat := ([none, some 0, some 0, some 0, some 3, some 4, some 5, some 4, some 7, some 8, some 9, some 4, some 11, some 12, some 13, some 14, some 11, some 0, some 0, some 0, some 0, some 0, some 0, some 0, some 0] : List (Option Nat)).getD k none
def own_dep (k : Nat) : Nat := ([0, 1, 1, 1, 2, 3, 4, 3, 4, 5, 6, 3, 4, 5, 6, 7, 4, 1, 1, 1, 1, 1, 1, 1, 1] : List Nat).getD k 0
def own_par (tt : Nat → Addr) (k : Nat) : Value := match own_p k with | none => .null | some q => .ref (tt q)
def own_sub : Nat → Nat → Nat → Int32
  | 0, _, _ => 0
  | n + 1, i, j => if i = j then 1 else match own_p i with | none => 0 | some q => own_sub n q j
theorem own_sub1 {n i j : Nat} (h : i = j) : own_sub (n + 1) i j = 1 := if_pos h
theorem own_subN {n i j : Nat} (h : ¬ i = j) (hp : own_p i = none) : own_sub (n + 1) i j = 0 := by
  show (if i = j then (1 : Int32) else match own_p i with | none => 0 | some q => own_sub n q j) = 0
  rw [if_neg h, hp]
theorem own_subS {n i j q : Nat} (h : ¬ i = j) (hp : own_p i = some q) : own_sub (n + 1) i j = own_sub n q j := by
  show (if i = j then (1 : Int32) else match own_p i with | none => 0 | some q => own_sub n q j) = _
  rw [if_neg h, hp]
theorem own_parN {tt : Nat → Addr} {i : Nat} (hp : own_p i = none) : own_par tt i = .null := by
  show (match own_p i with | none => Value.null | some q => .ref (tt q)) = _
  rw [hp]
theorem own_parS {tt : Nat → Addr} {i q : Nat} (hp : own_p i = some q) : own_par tt i = .ref (tt q) := by
  show (match own_p i with | none => Value.null | some q => .ref (tt q)) = _
  rw [hp]
theorem own_pOk : ∀ k : Fin 25, (own_p k.1).all (fun q => decide (q < 25 ∧ own_dep q < own_dep k.1)) = true := by decide +kernel
theorem own_pok {i q : Nat} (hi : i < 25) (hp : own_p i = some q) : q < 25 ∧ own_dep q < own_dep i := by
  have h : (own_p i).all (fun q => decide (q < 25 ∧ own_dep q < own_dep i)) = true := own_pOk ⟨i, hi⟩
  rw [hp] at h
  exact of_decide_eq_true h
theorem own_dep9 : ∀ k : Fin 25, own_dep k.1 < 9 := by decide +kernel
def own_anc (k : Nat) : Int32 := ([1, 3, 5, 9, 25, 57, 121, 153, 409, 921, 1945, 2073, 6169, 14361, 30745, 63513, 67609, 131073, 262145, 524289, 1048577, 2097153, 4194305, 8388609, 16777217] : List Int32).getD k 0
def own_bit (A J : Int32) : Int32 := if (((A.toUInt32 >>> (J &&& 31).toUInt32).toInt32) &&& (1 : Int32)) = (0 : Int32) then 0 else 1
theorem own_bits : ∀ i j : Fin 25, own_sub 9 i.1 j.1 = own_bit (own_anc i.1) (Int32.ofNat j.1) := by decide +kernel
theorem own_in (x : Int32) : ¬ ((x &&& (2147483647 : Int32)) % (25 : Int32)) < 0 ∧ ((x &&& (2147483647 : Int32)) % (25 : Int32)) < 25 := by
  have q := c_mask x 2147483647 31 (by decide) (by decide)
  have r := c_irem (x &&& 2147483647) 25 25 (by decide)
  simp only [own_lt, Int32.reduceToInt]
  omega
theorem own_k (x : Int32) : ((x &&& (2147483647 : Int32)) % (25 : Int32)).toNatClampNeg < 25 := by
  have q := own_in x
  have r := nat_of q.1
  simp only [own_lt, Int32.reduceToInt] at q
  omega
theorem own_fin (I : Nat) (J : Int32) (hI : I < 25) (hJ : J.toNatClampNeg < 25) (h0 : ¬ J < 0) : own_sub 9 I J.toNatClampNeg = own_bit (own_anc I) J := by
  have h := own_bits ⟨I, hI⟩ ⟨J.toNatClampNeg, hJ⟩
  have e : Int32.ofNat J.toNatClampNeg = J := (back32 h0).1
  rw [show (⟨J.toNatClampNeg, hJ⟩ : Fin 25).1 = J.toNatClampNeg from rfl, e] at h
  exact h
theorem own_eqr {Z : State} {args : Array Value} {X F : Term} {y : Addr} (hF : F.eval args Z none [] Z = some (.ref y)) (h : (Cond.eq X F).value args Z none Z [] = some true) : X.eval args Z none [] Z = some (.ref y) := by
  obtain ⟨x, y', e1, e2, k1, k2⟩ := cmp_v (Or.inl h)
  cases hF.symm.trans e2
  have hx : x.isRef = true := k2.2
  exact e1.trans (congrArg some (gotT (eq_R e1 hF hx rfl) h))
theorem own_pn1 : plainName "com/example/kennet/kennet/xdm/AtomicType" = true := by first | (simp [plainName, overriddenIn]; done) | decide +kernel
theorem own_pn0 : plainName "com/example/kennet/kennet/xdm/AtomicTypeIsSubtypeOfPinLaw" = true := by first | (simp [plainName, overriddenIn]; done) | decide +kernel
theorem own_pd0 : parseMethodDescriptor "(Lcom/example/kennet/kennet/xdm/AtomicType;)Z" = some ⟨[(.object "com/example/kennet/kennet/xdm/AtomicType")], some .boolean⟩ := by decide +kernel
theorem own_d1_0 : decode prog_35_method_7_code 0 = .ok (.aload_n 0, 1) := by decide +kernel
theorem own_d1_1 : decode prog_35_method_7_code 1 = .ok (.astore_n 2, 1) := by decide +kernel
theorem own_d1_2 : decode prog_35_method_7_code 2 = .ok (.aload_n 2, 1) := by decide +kernel
theorem own_d1_3 : decode prog_35_method_7_code 3 = .ok (.ifnull 16, 3) := by decide +kernel
theorem own_d1_6 : decode prog_35_method_7_code 6 = .ok (.aload_n 2, 1) := by decide +kernel
theorem own_d1_7 : decode prog_35_method_7_code 7 = .ok (.aload_n 1, 1) := by decide +kernel
theorem own_d1_8 : decode prog_35_method_7_code 8 = .ok (.if_acmp .eq 11, 3) := by decide +kernel
theorem own_d1_11 : decode prog_35_method_7_code 11 = .ok (.aload_n 2, 1) := by decide +kernel
theorem own_d1_12 : decode prog_35_method_7_code 12 = .ok (.getfield 105, 3) := by decide +kernel
theorem own_d1_15 : decode prog_35_method_7_code 15 = .ok (.astore_n 2, 1) := by decide +kernel
theorem own_d1_16 : decode prog_35_method_7_code 16 = .ok (.goto (-14), 3) := by decide +kernel
theorem own_d1_19 : decode prog_35_method_7_code 19 = .ok (.aload_n 2, 1) := by decide +kernel
theorem own_d1_20 : decode prog_35_method_7_code 20 = .ok (.ifnull 7, 3) := by decide +kernel
theorem own_d1_23 : decode prog_35_method_7_code 23 = .ok (.iconst 1, 1) := by decide +kernel
theorem own_d1_24 : decode prog_35_method_7_code 24 = .ok (.goto 4, 3) := by decide +kernel
theorem own_d1_27 : decode prog_35_method_7_code 27 = .ok (.iconst 0, 1) := by decide +kernel
theorem own_d1_28 : decode prog_35_method_7_code 28 = .ok (.ireturn, 1) := by decide +kernel
set_option maxRecDepth 65536 in
set_option maxHeartbeats 40000000 in
theorem own_loop {p : Program} {l : Launch} {e : Env} {R : Room} {s : State} {m : MethodId} {args : Array Value} {below : List Frame} {meth : Method} {c : Code} {locs : List Loc} {cells slots : Nat} {Z : State} {a0 : Array Value} {h0 : Heap} {tt : Nat → Addr} {n0 : Nat} {a1 : Addr} {j : Nat}
    (hx : p.tables.exec = Jvm.exec) (hZ : Z.Warmed39 s.vm) (hw : ∀ d ∈ tables_1, d.before a0 Z = true) (hby : c.code = prog_35_method_7_code) (hown : s.vm.findClass "com/example/kennet/kennet/xdm/AtomicType" = some m.cls)
    (OR : ∀ k, k < 25 → Fld Z Z.heap (tt k) "java/lang/Enum" "ordinal" "I" (.int (Int32.ofNat k))) (BT : ∀ k, k < 25 → Fld Z Z.heap (tt k) "com/example/kennet/kennet/xdm/AtomicType" "baseType" "Lcom/example/kennet/kennet/xdm/AtomicType;" (own_par tt k)) (O0 : Old Z n0 h0) (hj : j < 25) :
    ∀ (n i : Nat), i < 25 → own_dep i < n → ∀ {T : State}, Stand p l e R s m args below meth c T locs cells slots → T.heap = h0 →
      ∃ (T' : State) (w : Value), Stand p l e R s m args below meth c T' locs cells slots ∧ T'.heap = h0 ∧ ((w = .null ∧ own_sub n i j = 0) ∨ ∃ a, w = .ref a ∧ own_sub n i j = 1) ∧
        ∀ t, Steps p.tables e below (T'.setTop (mkF m 19 #[.val (.ref a1), .val (.ref (tt j)), .val w] [])) t → Steps p.tables e below (T.setTop (mkF m 2 #[.val (.ref a1), .val (.ref (tt j)), .val (.ref (tt i))] [])) t := by
  intro n
  induction n with
  | zero => intro i hi hd; exact absurd hd (Nat.not_lt_zero _)
  | succ n ih =>
    intro i hi hd T X0 e0
    by_cases hij : i = j
    · subst hij
      refine ⟨T, .ref (tt i), X0, e0, Or.inr ⟨tt i, rfl, own_sub1 rfl⟩, fun t k => ?_⟩
      show Steps p.tables e below (T.setTop (mkF m 2 #[.val (.ref a1), .val (.ref (tt i)), .val (.ref (tt i))] [])) _
      refine XS.aloadN X0.here hx rfl (hb hby own_d1_2) rfl rfl ?_
      show Steps p.tables e below (T.setTop (mkF m 3 #[.val (.ref a1), .val (.ref (tt i)), .val (.ref (tt i))] [(.ref (tt i))])) _
      refine XS.ifnullNo X0.here hx rfl (hb hby own_d1_3) rfl ?_
      show Steps p.tables e below (T.setTop (mkF m 6 #[.val (.ref a1), .val (.ref (tt i)), .val (.ref (tt i))] [])) _
      refine XS.aloadN X0.here hx rfl (hb hby own_d1_6) rfl rfl ?_
      show Steps p.tables e below (T.setTop (mkF m 7 #[.val (.ref a1), .val (.ref (tt i)), .val (.ref (tt i))] [(.ref (tt i))])) _
      refine XS.aloadN X0.here hx rfl (hb hby own_d1_7) rfl rfl ?_
      show Steps p.tables e below (T.setTop (mkF m 8 #[.val (.ref a1), .val (.ref (tt i)), .val (.ref (tt i))] [(.ref (tt i)), (.ref (tt i))])) _
      refine Jvm.RoadKit.acmp (g := (mkF m 8 #[.val (.ref a1), .val (.ref (tt i)), .val (.ref (tt i))] [(.ref (tt i)), (.ref (tt i))])) X0 hx rfl rfl rfl (pc0 := 8) (pc' := 19) (same := true) rfl (hb hby own_d1_8) rfl (decide_eq_true rfl) (by decide) (by decide) ?_
      exact k
    · have hne := own_tne OR hi hj hij
      have F := (BT i hi).ext O0.2
      obtain ⟨T1, X1, e1, st1⟩ := getF X0 hx hZ hown (host := "") (Or.inl (hw _ (List.mem_of_getElem? (i := 71) rfl))) Via.refl e0 F (g := (mkF m 12 #[.val (.ref a1), .val (.ref (tt j)), .val (.ref (tt i))] [(.ref (tt i))])) rfl rfl (hb hby own_d1_12)
      have pre : ∀ v, v = own_par tt i → ∀ t, Steps p.tables e below (T1.setTop (mkF m 15 #[.val (.ref a1), .val (.ref (tt j)), .val (.ref (tt i))] [v])) t → Steps p.tables e below (T.setTop (mkF m 2 #[.val (.ref a1), .val (.ref (tt j)), .val (.ref (tt i))] [])) t := by
        intro v hv t k
        subst hv
        show Steps p.tables e below (T.setTop (mkF m 2 #[.val (.ref a1), .val (.ref (tt j)), .val (.ref (tt i))] [])) _
        refine XS.aloadN X0.here hx rfl (hb hby own_d1_2) rfl rfl ?_
        show Steps p.tables e below (T.setTop (mkF m 3 #[.val (.ref a1), .val (.ref (tt j)), .val (.ref (tt i))] [(.ref (tt i))])) _
        refine XS.ifnullNo X0.here hx rfl (hb hby own_d1_3) rfl ?_
        show Steps p.tables e below (T.setTop (mkF m 6 #[.val (.ref a1), .val (.ref (tt j)), .val (.ref (tt i))] [])) _
        refine XS.aloadN X0.here hx rfl (hb hby own_d1_6) rfl rfl ?_
        show Steps p.tables e below (T.setTop (mkF m 7 #[.val (.ref a1), .val (.ref (tt j)), .val (.ref (tt i))] [(.ref (tt i))])) _
        refine XS.aloadN X0.here hx rfl (hb hby own_d1_7) rfl rfl ?_
        show Steps p.tables e below (T.setTop (mkF m 8 #[.val (.ref a1), .val (.ref (tt j)), .val (.ref (tt i))] [(.ref (tt j)), (.ref (tt i))])) _
        refine Jvm.RoadKit.acmp (g := (mkF m 8 #[.val (.ref a1), .val (.ref (tt j)), .val (.ref (tt i))] [(.ref (tt j)), (.ref (tt i))])) X0 hx rfl rfl rfl (pc0 := 8) (pc' := 11) (same := false) rfl (hb hby own_d1_8) rfl (decide_eq_false fun q => hne (Value.ref.inj q)) (by decide) (by decide) ?_
        show Steps p.tables e below (T.setTop (mkF m 11 #[.val (.ref a1), .val (.ref (tt j)), .val (.ref (tt i))] [])) _
        refine XS.aloadN X0.here hx rfl (hb hby own_d1_11) rfl rfl ?_
        show Steps p.tables e below (T.setTop (mkF m 12 #[.val (.ref a1), .val (.ref (tt j)), .val (.ref (tt i))] [(.ref (tt i))])) _
        refine st1 _ ?_
        exact k
      cases hp : own_p i with
      | none =>
        refine ⟨T1, .null, X1, e1, Or.inl ⟨rfl, own_subN hij hp⟩, fun t k => pre .null (own_parN hp).symm t ?_⟩
        refine XS.astoreN X1.here hx rfl (hb hby own_d1_15) rfl rfl (l' := #[.val (.ref a1), .val (.ref (tt j)), .val .null]) rfl ?_
        show Steps p.tables e below (T1.setTop (mkF m 16 #[.val (.ref a1), .val (.ref (tt j)), .val .null] [])) _
        refine XS.goto X1.here hx rfl (pc0 := 16) (pc' := 2) rfl (hb hby own_d1_16) (by decide) (by decide) ?_
        show Steps p.tables e below (T1.setTop (mkF m 2 #[.val (.ref a1), .val (.ref (tt j)), .val .null] [])) _
        refine XS.aloadN X1.here hx rfl (hb hby own_d1_2) rfl rfl ?_
        show Steps p.tables e below (T1.setTop (mkF m 3 #[.val (.ref a1), .val (.ref (tt j)), .val .null] [.null])) _
        refine XS.ifnullYes X1.here hx rfl (pc0 := 3) (pc' := 19) rfl (hb hby own_d1_3) rfl (by decide) (by decide) ?_
        exact k
      | some q =>
        obtain ⟨q1, q2⟩ := own_pok hi hp
        obtain ⟨T2, w, X2, e2, hw2, st2⟩ := ih q q1 (by omega) X1 e1
        refine ⟨T2, w, X2, e2, ?_, fun t k => pre (.ref (tt q)) (own_parS hp).symm t ?_⟩
        · rw [own_subS hij hp]; exact hw2
        · refine XS.astoreN X1.here hx rfl (hb hby own_d1_15) rfl rfl (l' := #[.val (.ref a1), .val (.ref (tt j)), .val (.ref (tt q))]) rfl ?_
          show Steps p.tables e below (T1.setTop (mkF m 16 #[.val (.ref a1), .val (.ref (tt j)), .val (.ref (tt q))] [])) _
          refine XS.goto X1.here hx rfl (pc0 := 16) (pc' := 2) rfl (hb hby own_d1_16) (by decide) (by decide) ?_
          exact st2 t k
theorem own_ef1 (m : MethodId) (x0 : Addr) (x1 : Addr) : entryFrame m #[(.ref x0), (.ref x1)] 3 = mkF m 0 #[.val (.ref x0), .val (.ref x1), .unset] [] := by first | (simp [entryFrame, mkF, argsToLocals, Value.category]; done) | rfl
def own_Q1 (Z : State) (a1 : Addr) (a2 : Addr) (tt : Nat → Addr) (i1 : Nat) (j1 : Nat) (h0 : Heap) (n0 : Nat) (v : Option Value) (h : Heap) (L : List Loc) : Prop := v = some (.int (own_sub 9 i1 j1)) ∧ Fr n0 L ∧ h = h0
set_option maxRecDepth 65536 in
set_option maxHeartbeats 40000000 in
theorem rm1 (l : Launch) (Z : State) (a0 : Array Value) (hw : ∀ d ∈ tables_1, d.before a0 Z = true) (ws : List Jvm.Cond) (a1 : Addr) (a2 : Addr) (tt : Nat → Addr) (i1 : Nat) (j1 : Nat) (h0 : Heap) (n0 : Nat) (Z0 : n0 ≤ h0.size) (hi : i1 < 25) (hj : j1 < 25) (ha1 : a1 = tt i1) (ha2 : a2 = tt j1) (OR : ∀ k, k < 25 → Fld Z Z.heap (tt k) "java/lang/Enum" "ordinal" "I" (.int (Int32.ofNat k))) (BT : ∀ k, k < 25 → Fld Z Z.heap (tt k) "com/example/kennet/kennet/xdm/AtomicType" "baseType" "Lcom/example/kennet/kennet/xdm/AtomicType;" (own_par tt k)) (O0 : Old Z n0 h0) :
    MetFree l (⟨"com/example/kennet/kennet/xdm/AtomicType", "isSubtypeOf", "(Lcom/example/kennet/kennet/xdm/AtomicType;)Z"⟩ : MethodName) (head1 (Jvm.Cond.code (⟨"com/example/kennet/kennet/xdm/AtomicType", "isSubtypeOf", "(Lcom/example/kennet/kennet/xdm/AtomicType;)Z"⟩ : MethodName) prog_35_method_7_code 3 (some .boolean) :: ws) ({ frames := 0, cells := 0, slots := 0, locals := 0 } : Room)) (fun a U => a = #[(.ref a1), (.ref a2)] ∧ Z.Warmed39 U.vm ∧ U.heap = h0) (fun _ _ _ _ _ => True) (fun _ U o U' => ∃ v L, o = .returned v ∧ own_Q1 Z a1 a2 tt i1 j1 h0 n0 v U'.heap L ∧ FrameEnd U o U' L ({ frames := 0, cells := 0, slots := 0, locals := 0 } : Room).cells ({ frames := 0, cells := 0, slots := 0, locals := 0 } : Room).slots) := by
  refine MetFree.of_bodySF (plainFor_of_name own_pn1) hisR ?_
  intro p e s m args below meth c s₁ Bd hml0 hP hK
  obtain ⟨rfl, hZ, hh⟩ := hP
  have hx := Bd.exec
  have hby := Bd.bytes
  have hml : c.maxLocals = 3 := hml0
  have hown : s.vm.findClass "com/example/kennet/kennet/xdm/AtomicType" = some m.cls := findClass_of_methodNamed Bd.named
  have hnm := (name_of_methodNamed Bd.named Bd.method).1
  have X0 : Stand p l e ({ frames := 0, cells := 0, slots := 0, locals := 0 } : Room) s m #[(.ref a1), (.ref a2)] below meth c s₁ [] 0 0 := Stand.of_body Bd
  have e0 : s₁.heap = h0 := by rw [← hh, Bd.state]; rfl
  have N0 := Fr.nil n0
  have pre0 : ∀ t, Steps p.tables e below (s₁.setTop (mkF m 0 #[.val (.ref a1), .val (.ref a2), .unset] [])) t → Steps p.tables e below (s₁.setTop (entryFrame m #[(.ref a1), (.ref a2)] 3)) t := fun t k => castTop (own_ef1 m a1 a2) k
  have pre1 : ∀ t, Steps p.tables e below (s₁.setTop (mkF m 2 #[.val (.ref a1), .val (.ref a2), .val (.ref a1)] [])) t → Steps p.tables e below (s₁.setTop (entryFrame m #[(.ref a1), (.ref a2)] 3)) t := by
    intro t k
    refine pre0 _ ?_
    show Steps p.tables e below (s₁.setTop (mkF m 0 #[.val (.ref a1), .val (.ref a2), .unset] [])) _
    refine XS.aloadN X0.here hx rfl (hb hby own_d1_0) rfl rfl ?_
    show Steps p.tables e below (s₁.setTop (mkF m 1 #[.val (.ref a1), .val (.ref a2), .unset] [(.ref a1)])) _
    refine XS.astoreN X0.here hx rfl (hb hby own_d1_1) rfl rfl (l' := #[.val (.ref a1), .val (.ref a2), .val (.ref a1)]) rfl ?_
    exact k
  obtain ⟨TL, w2, XL, eL, hwL, stL⟩ := own_loop (a1 := a1) hx hZ hw hby hown OR BT O0 hj 9 i1 hi (own_dep9 ⟨i1, hi⟩) X0 e0
  rw [← ha1, ← ha2] at stL
  have preL : ∀ t, Steps p.tables e below (TL.setTop (mkF m 19 #[.val (.ref a1), .val (.ref a2), .val w2] [])) t → Steps p.tables e below (s₁.setTop (entryFrame m #[(.ref a1), (.ref a2)] 3)) t := fun t k => pre1 _ (stL t k)
  rcases hwL with ⟨rfl, hv⟩ | ⟨aL, rfl, hv⟩
  · -- null
    have pre2 : ∀ t, Steps p.tables e below (TL.setTop (mkF m 28 #[.val (.ref a1), .val (.ref a2), .val .null] [(.int (0 : Int32))])) t → Steps p.tables e below (s₁.setTop (entryFrame m #[(.ref a1), (.ref a2)] 3)) t := by
      intro t k
      refine preL _ ?_
      show Steps p.tables e below (TL.setTop (mkF m 19 #[.val (.ref a1), .val (.ref a2), .val .null] [])) _
      refine XS.aloadN XL.here hx rfl (hb hby own_d1_19) rfl rfl ?_
      show Steps p.tables e below (TL.setTop (mkF m 20 #[.val (.ref a1), .val (.ref a2), .val .null] [.null])) _
      refine XS.ifnullYes XL.here hx rfl (pc0 := 20) (pc' := 27) rfl (hb hby own_d1_20) rfl (by decide) (by decide) ?_
      show Steps p.tables e below (TL.setTop (mkF m 27 #[.val (.ref a1), .val (.ref a2), .val .null] [])) _
      refine XS.iconst XL.here hx rfl (hb hby own_d1_27) ?_
      exact k
    obtain ⟨fs, hr, hrun, hended, hW, hsame⟩ := XL.leave (v := some (.int (0 : Int32))) (fun h => by rw [Bd.returns] at h; cases h)
    refine ⟨_, _, pre2 _ ?_, hrun, hended, _, _, rfl, ?_, ⟨_, rfl⟩, hW, hsame.mono (by decide) (by decide)⟩
    · show Steps p.tables e below (TL.setTop (mkF m 28 #[.val (.ref a1), .val (.ref a2), .val .null] [(.int (0 : Int32))])) _
      exact retN XL hx (t := .boolean) Bd.returns (by simp) (hb hby own_d1_28) hr
    · show own_Q1 Z a1 a2 tt i1 j1 h0 n0 _ TL.heap _
      rw [eL]
      exact ⟨congrArg (fun z => some (Value.int z)) (show (0 : Int32) = (own_sub 9 i1 j1) from hv.symm), N0, rfl⟩
  · -- aL
    have pre3 : ∀ t, Steps p.tables e below (TL.setTop (mkF m 28 #[.val (.ref a1), .val (.ref a2), .val (.ref aL)] [(.int (1 : Int32))])) t → Steps p.tables e below (s₁.setTop (entryFrame m #[(.ref a1), (.ref a2)] 3)) t := by
      intro t k
      refine preL _ ?_
      show Steps p.tables e below (TL.setTop (mkF m 19 #[.val (.ref a1), .val (.ref a2), .val (.ref aL)] [])) _
      refine XS.aloadN XL.here hx rfl (hb hby own_d1_19) rfl rfl ?_
      show Steps p.tables e below (TL.setTop (mkF m 20 #[.val (.ref a1), .val (.ref a2), .val (.ref aL)] [(.ref aL)])) _
      refine XS.ifnullNo XL.here hx rfl (hb hby own_d1_20) rfl ?_
      show Steps p.tables e below (TL.setTop (mkF m 23 #[.val (.ref a1), .val (.ref a2), .val (.ref aL)] [])) _
      refine XS.iconst XL.here hx rfl (hb hby own_d1_23) ?_
      show Steps p.tables e below (TL.setTop (mkF m 24 #[.val (.ref a1), .val (.ref a2), .val (.ref aL)] [(.int (1 : Int32))])) _
      refine XS.goto XL.here hx rfl (pc0 := 24) (pc' := 28) rfl (hb hby own_d1_24) (by decide) (by decide) ?_
      exact k
    obtain ⟨fs, hr, hrun, hended, hW, hsame⟩ := XL.leave (v := some (.int (1 : Int32))) (fun h => by rw [Bd.returns] at h; cases h)
    refine ⟨_, _, pre3 _ ?_, hrun, hended, _, _, rfl, ?_, ⟨_, rfl⟩, hW, hsame.mono (by decide) (by decide)⟩
    · show Steps p.tables e below (TL.setTop (mkF m 28 #[.val (.ref a1), .val (.ref a2), .val (.ref aL)] [(.int (1 : Int32))])) _
      exact retN XL hx (t := .boolean) Bd.returns (by simp) (hb hby own_d1_28) hr
    · show own_Q1 Z a1 a2 tt i1 j1 h0 n0 _ TL.heap _
      rw [eL]
      exact ⟨congrArg (fun z => some (Value.int z)) (show (1 : Int32) = (own_sub 9 i1 j1) from hv.symm), N0, rfl⟩
theorem own_ef0 (m : MethodId) (x0 : Int32) (x1 : Int32) : entryFrame m #[(.int x0), (.int x1)] maxLocals = mkF m 0 #[.val (.int x0), .val (.int x1), .unset, .unset, .unset, .unset, .unset] [] := by first | (simp [entryFrame, mkF, argsToLocals, Value.category, maxLocals]; done) | rfl
def own_Q0 (Z : State) (p1 : Int32) (p2 : Int32) (tt : Nat → Addr) (h0 : Heap) (n0 : Nat) (v : Option Value) (h : Heap) (L : List Loc) : Prop := v = some (.int (1 : Int32)) ∧ Fr n0 L
set_option maxRecDepth 65536 in
set_option maxHeartbeats 40000000 in
theorem rm0 (l : Launch) (Z : State) (a0 : Array Value) (hw : ∀ d ∈ tables_1, d.before a0 Z = true) (ws : List Jvm.Cond) (p1 : Int32) (p2 : Int32) (tt : Nat → Addr) (h0 : Heap) (n0 : Nat) (Z0 : n0 ≤ h0.size) (EX : ∀ k, k < 25 → Exa Z Z.heap (tt k) "com/example/kennet/kennet/xdm/AtomicType") (OR : ∀ k, k < 25 → Fld Z Z.heap (tt k) "java/lang/Enum" "ordinal" "I" (.int (Int32.ofNat k))) (BT : ∀ k, k < 25 → Fld Z Z.heap (tt k) "com/example/kennet/kennet/xdm/AtomicType" "baseType" "Lcom/example/kennet/kennet/xdm/AtomicType;" (own_par tt k)) (BS_ANY_ATOMIC_TYPE : Sta Z Z.heap "com/example/kennet/kennet/xdm/AtomicType" "ANY_ATOMIC_TYPE" "Lcom/example/kennet/kennet/xdm/AtomicType;" (.ref (tt 0))) (BS_STRING : Sta Z Z.heap "com/example/kennet/kennet/xdm/AtomicType" "STRING" "Lcom/example/kennet/kennet/xdm/AtomicType;" (.ref (tt 1))) (BS_BOOLEAN : Sta Z Z.heap "com/example/kennet/kennet/xdm/AtomicType" "BOOLEAN" "Lcom/example/kennet/kennet/xdm/AtomicType;" (.ref (tt 2))) (BS_DECIMAL : Sta Z Z.heap "com/example/kennet/kennet/xdm/AtomicType" "DECIMAL" "Lcom/example/kennet/kennet/xdm/AtomicType;" (.ref (tt 3))) (BS_INTEGER : Sta Z Z.heap "com/example/kennet/kennet/xdm/AtomicType" "INTEGER" "Lcom/example/kennet/kennet/xdm/AtomicType;" (.ref (tt 4))) (BS_NON_POSITIVE_INTEGER : Sta Z Z.heap "com/example/kennet/kennet/xdm/AtomicType" "NON_POSITIVE_INTEGER" "Lcom/example/kennet/kennet/xdm/AtomicType;" (.ref (tt 5))) (BS_NEGATIVE_INTEGER : Sta Z Z.heap "com/example/kennet/kennet/xdm/AtomicType" "NEGATIVE_INTEGER" "Lcom/example/kennet/kennet/xdm/AtomicType;" (.ref (tt 6))) (BS_LONG : Sta Z Z.heap "com/example/kennet/kennet/xdm/AtomicType" "LONG" "Lcom/example/kennet/kennet/xdm/AtomicType;" (.ref (tt 7))) (BS_INT : Sta Z Z.heap "com/example/kennet/kennet/xdm/AtomicType" "INT" "Lcom/example/kennet/kennet/xdm/AtomicType;" (.ref (tt 8))) (BS_SHORT : Sta Z Z.heap "com/example/kennet/kennet/xdm/AtomicType" "SHORT" "Lcom/example/kennet/kennet/xdm/AtomicType;" (.ref (tt 9))) (BS_BYTE : Sta Z Z.heap "com/example/kennet/kennet/xdm/AtomicType" "BYTE" "Lcom/example/kennet/kennet/xdm/AtomicType;" (.ref (tt 10))) (BS_NON_NEGATIVE_INTEGER : Sta Z Z.heap "com/example/kennet/kennet/xdm/AtomicType" "NON_NEGATIVE_INTEGER" "Lcom/example/kennet/kennet/xdm/AtomicType;" (.ref (tt 11))) (BS_UNSIGNED_LONG : Sta Z Z.heap "com/example/kennet/kennet/xdm/AtomicType" "UNSIGNED_LONG" "Lcom/example/kennet/kennet/xdm/AtomicType;" (.ref (tt 12))) (BS_UNSIGNED_INT : Sta Z Z.heap "com/example/kennet/kennet/xdm/AtomicType" "UNSIGNED_INT" "Lcom/example/kennet/kennet/xdm/AtomicType;" (.ref (tt 13))) (BS_UNSIGNED_SHORT : Sta Z Z.heap "com/example/kennet/kennet/xdm/AtomicType" "UNSIGNED_SHORT" "Lcom/example/kennet/kennet/xdm/AtomicType;" (.ref (tt 14))) (BS_UNSIGNED_BYTE : Sta Z Z.heap "com/example/kennet/kennet/xdm/AtomicType" "UNSIGNED_BYTE" "Lcom/example/kennet/kennet/xdm/AtomicType;" (.ref (tt 15))) (BS_POSITIVE_INTEGER : Sta Z Z.heap "com/example/kennet/kennet/xdm/AtomicType" "POSITIVE_INTEGER" "Lcom/example/kennet/kennet/xdm/AtomicType;" (.ref (tt 16))) (BS_FLOAT : Sta Z Z.heap "com/example/kennet/kennet/xdm/AtomicType" "FLOAT" "Lcom/example/kennet/kennet/xdm/AtomicType;" (.ref (tt 17))) (BS_DOUBLE : Sta Z Z.heap "com/example/kennet/kennet/xdm/AtomicType" "DOUBLE" "Lcom/example/kennet/kennet/xdm/AtomicType;" (.ref (tt 18))) (BS_UNTYPED_ATOMIC : Sta Z Z.heap "com/example/kennet/kennet/xdm/AtomicType" "UNTYPED_ATOMIC" "Lcom/example/kennet/kennet/xdm/AtomicType;" (.ref (tt 19))) (BS_ANY_URI : Sta Z Z.heap "com/example/kennet/kennet/xdm/AtomicType" "ANY_URI" "Lcom/example/kennet/kennet/xdm/AtomicType;" (.ref (tt 20))) (BS_QNAME : Sta Z Z.heap "com/example/kennet/kennet/xdm/AtomicType" "QNAME" "Lcom/example/kennet/kennet/xdm/AtomicType;" (.ref (tt 21))) (BS_HEX_BINARY : Sta Z Z.heap "com/example/kennet/kennet/xdm/AtomicType" "HEX_BINARY" "Lcom/example/kennet/kennet/xdm/AtomicType;" (.ref (tt 22))) (BS_BASE64_BINARY : Sta Z Z.heap "com/example/kennet/kennet/xdm/AtomicType" "BASE64_BINARY" "Lcom/example/kennet/kennet/xdm/AtomicType;" (.ref (tt 23))) (BS_DATE : Sta Z Z.heap "com/example/kennet/kennet/xdm/AtomicType" "DATE" "Lcom/example/kennet/kennet/xdm/AtomicType;" (.ref (tt 24))) (O0 : Old Z n0 h0) :
    MetFree l x (head1 (Jvm.Cond.code x code maxLocals ret :: ws) room_1) (fun a U => a = #[(.int p1), (.int p2)] ∧ Z.Warmed39 U.vm ∧ U.heap = h0) (fun _ _ _ _ _ => True) (fun _ U o U' => ∃ v L, o = .returned v ∧ own_Q0 Z p1 p2 tt h0 n0 v U'.heap L ∧ FrameEnd U o U' L room_1.cells room_1.slots) := by
  refine MetFree.of_bodySF (plainFor_of_name own_pn0) hisR ?_
  intro p e s m args below meth c s₁ Bd hml0 hP hK
  obtain ⟨rfl, hZ, hh⟩ := hP
  have hx := Bd.exec
  have hby := Bd.bytes
  have hml : c.maxLocals = 7 := hml0
  have hown : s.vm.findClass "com/example/kennet/kennet/xdm/AtomicTypeIsSubtypeOfPinLaw" = some m.cls := findClass_of_methodNamed Bd.named
  have hnm := (name_of_methodNamed Bd.named Bd.method).1
  have X0 : Stand p l e room_1 s m #[(.int p1), (.int p2)] below meth c s₁ [] 0 0 := Stand.of_body Bd
  have e0 : s₁.heap = h0 := by rw [← hh, Bd.state]; rfl
  have N0 := Fr.nil n0
  have pre0 : ∀ t, Steps p.tables e below (s₁.setTop (mkF m 0 #[.val (.int p1), .val (.int p2), .unset, .unset, .unset, .unset, .unset] [])) t → Steps p.tables e below (s₁.setTop (entryFrame m #[(.int p1), (.int p2)] maxLocals)) t := fun t k => castTop (own_ef0 m p1 p2) k
  obtain ⟨T1, h1, k1, X1, e1, E1, A1, O1, st1⟩ := newR X0 hx hZ hown (hw _ (List.mem_of_getElem? (i := 0) rfl)) (hw _ (List.mem_of_getElem? (i := 1) rfl)) e0 (g := (mkF m 2 #[.val (.int p1), .val (.int p2), .unset, .unset, .unset, .unset, .unset] [(.int (25 : Int32))])) rfl (hb hby at_2) rfl (by decide) (cap := 25) (by decide) (by decide) (by decide) (by decide)
  obtain ⟨b1, g1⟩ : ∃ z, z = h0.size := ⟨_, rfl⟩
  rw [← g1] at A1 st1
  have g_b1 : n0 ≤ b1 := Nat.le_trans Z0 (Nat.le_of_eq g1.symm)
  have Z1 : n0 ≤ h1.size := Nat.le_trans Z0 E1.1
  have O1o := O0.ext E1
  have V_b1 : Arv Z h1 b1 k1 (.object "com/example/kennet/kennet/xdm/AtomicType") (25 : Int32) [.null, .null, .null, .null, .null, .null, .null, .null, .null, .null, .null, .null, .null, .null, .null, .null, .null, .null, .null, .null, .null, .null, .null, .null, .null] .null := (Arv.new A1 (by decide)).pad (pad_rep [] .null 25)
  obtain ⟨T2, X2, e2, st2⟩ := getS2 X1 hx hZ hown (host := "") (Or.inl (hw _ (List.mem_of_getElem? (i := 2) rfl))) Via.refl e1 (BS_ANY_ATOMIC_TYPE.ext O1o.2) (g := (mkF m 7 #[.val (.int p1), .val (.int p2), .unset, .unset, .unset, .unset, .unset] [(.int (0 : Int32)), (.ref b1), (.ref b1)])) rfl (hb hby at_7)
  obtain ⟨cl_b1, Ar_b1, q_b1, S_b1, N_b1, H_b1, G_b1⟩ := V_b1
  have hin10 : ¬ ((0 : Int32) < 0 ∨ cl_b1.slots.size ≤ ((0 : Int32)).toNatClampNeg) := inb_of S_b1 ⟨by decide, by decide⟩
  obtain ⟨T3, h3, X3, e3, W3, st3⟩ := stR X2 hx hZ e2 Ar_b1 (j := (0 : Int32)) hin10 rfl (Sto.ofV Ar_b1 q_b1 O1 (Ins.self ((EX 0 (by decide)).ext O1o.2))) (g := (mkF m 10 #[.val (.int p1), .val (.int p2), .unset, .unset, .unset, .unset, .unset] [(.ref (tt 0)), (.int (0 : Int32)), (.ref b1), (.ref b1)])) rfl rfl (hb hby at_10)
  have Z3 : n0 ≤ h3.size := Nat.le_trans Z1 (Keep.of_wr W3).1
  have N3 := Fr.snoc X3 N0 g_b1
  have O3o := O1o.wr W3 g_b1
  have V_b1 : Arv Z h3 b1 k1 (.object "com/example/kennet/kennet/xdm/AtomicType") (25 : Int32) [(.ref (tt 0)), .null, .null, .null, .null, .null, .null, .null, .null, .null, .null, .null, .null, .null, .null, .null, .null, .null, .null, .null, .null, .null, .null, .null, .null] .null := Arv.set Ar_b1 q_b1 S_b1 N_b1 H_b1 G_b1 rfl W3 0 rfl (Nat.le_of_ble_eq_true rfl)
  obtain ⟨L3a, X3a, N3a⟩ : ∃ L, Stand p l e room_1 s m #[(.int p1), (.int p2)] below meth c T3 L 1 25 ∧ Fr n0 L := ⟨_, X3, N3⟩
  have pre4 : ∀ t, Steps p.tables e below (T3.setTop (mkF m 11 #[.val (.int p1), .val (.int p2), .unset, .unset, .unset, .unset, .unset] [(.ref b1)])) t → Steps p.tables e below (s₁.setTop (entryFrame m #[(.int p1), (.int p2)] maxLocals)) t := by
    intro t k
    refine pre0 _ ?_
    show Steps p.tables e below (s₁.setTop (mkF m 0 #[.val (.int p1), .val (.int p2), .unset, .unset, .unset, .unset, .unset] [])) _
    refine XS.bipush X0.here hx rfl (hb hby at_0) ?_
    show Steps p.tables e below (s₁.setTop (mkF m 2 #[.val (.int p1), .val (.int p2), .unset, .unset, .unset, .unset, .unset] [(.int (25 : Int32))])) _
    refine st1 _ ?_
    show Steps p.tables e below (T1.setTop (mkF m 5 #[.val (.int p1), .val (.int p2), .unset, .unset, .unset, .unset, .unset] [(.ref b1)])) _
    refine XS.dup X1.here hx rfl (hb hby at_5) rfl rfl ?_
    show Steps p.tables e below (T1.setTop (mkF m 6 #[.val (.int p1), .val (.int p2), .unset, .unset, .unset, .unset, .unset] [(.ref b1), (.ref b1)])) _
    refine XS.iconst X1.here hx rfl (hb hby at_6) ?_
    show Steps p.tables e below (T1.setTop (mkF m 7 #[.val (.int p1), .val (.int p2), .unset, .unset, .unset, .unset, .unset] [(.int (0 : Int32)), (.ref b1), (.ref b1)])) _
    refine st2 _ ?_
    show Steps p.tables e below (T2.setTop (mkF m 10 #[.val (.int p1), .val (.int p2), .unset, .unset, .unset, .unset, .unset] [(.ref (tt 0)), (.int (0 : Int32)), (.ref b1), (.ref b1)])) _
    refine st3 _ ?_
    exact k
  clear X0 e0 st1 X1 e1 st2 X2 e2 st3 Z1 O1o N3 X3 W3 Ar_b1 q_b1 S_b1 N_b1 H_b1 G_b1 hin10 cl_b1
  obtain ⟨T5, X5, e5, st5⟩ := getS2 X3a hx hZ hown (host := "") (Or.inl (hw _ (List.mem_of_getElem? (i := 6) rfl))) Via.refl e3 (BS_STRING.ext O3o.2) (g := (mkF m 13 #[.val (.int p1), .val (.int p2), .unset, .unset, .unset, .unset, .unset] [(.int (1 : Int32)), (.ref b1), (.ref b1)])) rfl (hb hby at_13)
  obtain ⟨cl_b1, Ar_b1, q_b1, S_b1, N_b1, H_b1, G_b1⟩ := V_b1
  have hin16 : ¬ ((1 : Int32) < 0 ∨ cl_b1.slots.size ≤ ((1 : Int32)).toNatClampNeg) := inb_of S_b1 ⟨by decide, by decide⟩
  obtain ⟨T6, h6, X6, e6, W6, st6⟩ := stR X5 hx hZ e5 Ar_b1 (j := (1 : Int32)) hin16 rfl (Sto.ofV Ar_b1 q_b1 O1 (Ins.self ((EX 1 (by decide)).ext O3o.2))) (g := (mkF m 16 #[.val (.int p1), .val (.int p2), .unset, .unset, .unset, .unset, .unset] [(.ref (tt 1)), (.int (1 : Int32)), (.ref b1), (.ref b1)])) rfl rfl (hb hby at_16)
  have Z6 : n0 ≤ h6.size := Nat.le_trans Z3 (Keep.of_wr W6).1
  have N6 := Fr.snoc X6 N3a g_b1
  have O6o := O3o.wr W6 g_b1
  have V_b1 : Arv Z h6 b1 k1 (.object "com/example/kennet/kennet/xdm/AtomicType") (25 : Int32) [(.ref (tt 0)), (.ref (tt 1)), .null, .null, .null, .null, .null, .null, .null, .null, .null, .null, .null, .null, .null, .null, .null, .null, .null, .null, .null, .null, .null, .null, .null] .null := Arv.set Ar_b1 q_b1 S_b1 N_b1 H_b1 G_b1 rfl W6 1 rfl (Nat.le_of_ble_eq_true rfl)
  obtain ⟨L6a, X6a, N6a⟩ : ∃ L, Stand p l e room_1 s m #[(.int p1), (.int p2)] below meth c T6 L 1 25 ∧ Fr n0 L := ⟨_, X6, N6⟩
  have pre7 : ∀ t, Steps p.tables e below (T6.setTop (mkF m 17 #[.val (.int p1), .val (.int p2), .unset, .unset, .unset, .unset, .unset] [(.ref b1)])) t → Steps p.tables e below (s₁.setTop (entryFrame m #[(.int p1), (.int p2)] maxLocals)) t := by
    intro t k
    refine pre4 _ ?_
    show Steps p.tables e below (T3.setTop (mkF m 11 #[.val (.int p1), .val (.int p2), .unset, .unset, .unset, .unset, .unset] [(.ref b1)])) _
    refine XS.dup X3a.here hx rfl (hb hby at_11) rfl rfl ?_
    show Steps p.tables e below (T3.setTop (mkF m 12 #[.val (.int p1), .val (.int p2), .unset, .unset, .unset, .unset, .unset] [(.ref b1), (.ref b1)])) _
    refine XS.iconst X3a.here hx rfl (hb hby at_12) ?_
    show Steps p.tables e below (T3.setTop (mkF m 13 #[.val (.int p1), .val (.int p2), .unset, .unset, .unset, .unset, .unset] [(.int (1 : Int32)), (.ref b1), (.ref b1)])) _
    refine st5 _ ?_
    show Steps p.tables e below (T5.setTop (mkF m 16 #[.val (.int p1), .val (.int p2), .unset, .unset, .unset, .unset, .unset] [(.ref (tt 1)), (.int (1 : Int32)), (.ref b1), (.ref b1)])) _
    refine st6 _ ?_
    exact k
  clear X3a e3 st5 X5 e5 st6 Z3 N3a O3o N6 X6 W6 Ar_b1 q_b1 S_b1 N_b1 H_b1 G_b1 hin16 cl_b1 pre4
  obtain ⟨T8, X8, e8, st8⟩ := getS2 X6a hx hZ hown (host := "") (Or.inl (hw _ (List.mem_of_getElem? (i := 8) rfl))) Via.refl e6 (BS_BOOLEAN.ext O6o.2) (g := (mkF m 19 #[.val (.int p1), .val (.int p2), .unset, .unset, .unset, .unset, .unset] [(.int (2 : Int32)), (.ref b1), (.ref b1)])) rfl (hb hby at_19)
  obtain ⟨cl_b1, Ar_b1, q_b1, S_b1, N_b1, H_b1, G_b1⟩ := V_b1
  have hin22 : ¬ ((2 : Int32) < 0 ∨ cl_b1.slots.size ≤ ((2 : Int32)).toNatClampNeg) := inb_of S_b1 ⟨by decide, by decide⟩
  obtain ⟨T9, h9, X9, e9, W9, st9⟩ := stR X8 hx hZ e8 Ar_b1 (j := (2 : Int32)) hin22 rfl (Sto.ofV Ar_b1 q_b1 O1 (Ins.self ((EX 2 (by decide)).ext O6o.2))) (g := (mkF m 22 #[.val (.int p1), .val (.int p2), .unset, .unset, .unset, .unset, .unset] [(.ref (tt 2)), (.int (2 : Int32)), (.ref b1), (.ref b1)])) rfl rfl (hb hby at_22)
  have Z9 : n0 ≤ h9.size := Nat.le_trans Z6 (Keep.of_wr W9).1
  have N9 := Fr.snoc X9 N6a g_b1
  have O9o := O6o.wr W9 g_b1
  have V_b1 : Arv Z h9 b1 k1 (.object "com/example/kennet/kennet/xdm/AtomicType") (25 : Int32) [(.ref (tt 0)), (.ref (tt 1)), (.ref (tt 2)), .null, .null, .null, .null, .null, .null, .null, .null, .null, .null, .null, .null, .null, .null, .null, .null, .null, .null, .null, .null, .null, .null] .null := Arv.set Ar_b1 q_b1 S_b1 N_b1 H_b1 G_b1 rfl W9 2 rfl (Nat.le_of_ble_eq_true rfl)
  obtain ⟨L9a, X9a, N9a⟩ : ∃ L, Stand p l e room_1 s m #[(.int p1), (.int p2)] below meth c T9 L 1 25 ∧ Fr n0 L := ⟨_, X9, N9⟩
  have pre10 : ∀ t, Steps p.tables e below (T9.setTop (mkF m 23 #[.val (.int p1), .val (.int p2), .unset, .unset, .unset, .unset, .unset] [(.ref b1)])) t → Steps p.tables e below (s₁.setTop (entryFrame m #[(.int p1), (.int p2)] maxLocals)) t := by
    intro t k
    refine pre7 _ ?_
    show Steps p.tables e below (T6.setTop (mkF m 17 #[.val (.int p1), .val (.int p2), .unset, .unset, .unset, .unset, .unset] [(.ref b1)])) _
    refine XS.dup X6a.here hx rfl (hb hby at_17) rfl rfl ?_
    show Steps p.tables e below (T6.setTop (mkF m 18 #[.val (.int p1), .val (.int p2), .unset, .unset, .unset, .unset, .unset] [(.ref b1), (.ref b1)])) _
    refine XS.iconst X6a.here hx rfl (hb hby at_18) ?_
    show Steps p.tables e below (T6.setTop (mkF m 19 #[.val (.int p1), .val (.int p2), .unset, .unset, .unset, .unset, .unset] [(.int (2 : Int32)), (.ref b1), (.ref b1)])) _
    refine st8 _ ?_
    show Steps p.tables e below (T8.setTop (mkF m 22 #[.val (.int p1), .val (.int p2), .unset, .unset, .unset, .unset, .unset] [(.ref (tt 2)), (.int (2 : Int32)), (.ref b1), (.ref b1)])) _
    refine st9 _ ?_
    exact k
  clear X6a e6 st8 X8 e8 st9 Z6 N6a O6o N9 X9 W9 Ar_b1 q_b1 S_b1 N_b1 H_b1 G_b1 hin22 cl_b1 pre7
  obtain ⟨T11, X11, e11, st11⟩ := getS2 X9a hx hZ hown (host := "") (Or.inl (hw _ (List.mem_of_getElem? (i := 10) rfl))) Via.refl e9 (BS_DECIMAL.ext O9o.2) (g := (mkF m 25 #[.val (.int p1), .val (.int p2), .unset, .unset, .unset, .unset, .unset] [(.int (3 : Int32)), (.ref b1), (.ref b1)])) rfl (hb hby at_25)
  obtain ⟨cl_b1, Ar_b1, q_b1, S_b1, N_b1, H_b1, G_b1⟩ := V_b1
  have hin28 : ¬ ((3 : Int32) < 0 ∨ cl_b1.slots.size ≤ ((3 : Int32)).toNatClampNeg) := inb_of S_b1 ⟨by decide, by decide⟩
  obtain ⟨T12, h12, X12, e12, W12, st12⟩ := stR X11 hx hZ e11 Ar_b1 (j := (3 : Int32)) hin28 rfl (Sto.ofV Ar_b1 q_b1 O1 (Ins.self ((EX 3 (by decide)).ext O9o.2))) (g := (mkF m 28 #[.val (.int p1), .val (.int p2), .unset, .unset, .unset, .unset, .unset] [(.ref (tt 3)), (.int (3 : Int32)), (.ref b1), (.ref b1)])) rfl rfl (hb hby at_28)
  have Z12 : n0 ≤ h12.size := Nat.le_trans Z9 (Keep.of_wr W12).1
  have N12 := Fr.snoc X12 N9a g_b1
  have O12o := O9o.wr W12 g_b1
  have V_b1 : Arv Z h12 b1 k1 (.object "com/example/kennet/kennet/xdm/AtomicType") (25 : Int32) [(.ref (tt 0)), (.ref (tt 1)), (.ref (tt 2)), (.ref (tt 3)), .null, .null, .null, .null, .null, .null, .null, .null, .null, .null, .null, .null, .null, .null, .null, .null, .null, .null, .null, .null, .null] .null := Arv.set Ar_b1 q_b1 S_b1 N_b1 H_b1 G_b1 rfl W12 3 rfl (Nat.le_of_ble_eq_true rfl)
  obtain ⟨L12a, X12a, N12a⟩ : ∃ L, Stand p l e room_1 s m #[(.int p1), (.int p2)] below meth c T12 L 1 25 ∧ Fr n0 L := ⟨_, X12, N12⟩
  have pre13 : ∀ t, Steps p.tables e below (T12.setTop (mkF m 29 #[.val (.int p1), .val (.int p2), .unset, .unset, .unset, .unset, .unset] [(.ref b1)])) t → Steps p.tables e below (s₁.setTop (entryFrame m #[(.int p1), (.int p2)] maxLocals)) t := by
    intro t k
    refine pre10 _ ?_
    show Steps p.tables e below (T9.setTop (mkF m 23 #[.val (.int p1), .val (.int p2), .unset, .unset, .unset, .unset, .unset] [(.ref b1)])) _
    refine XS.dup X9a.here hx rfl (hb hby at_23) rfl rfl ?_
    show Steps p.tables e below (T9.setTop (mkF m 24 #[.val (.int p1), .val (.int p2), .unset, .unset, .unset, .unset, .unset] [(.ref b1), (.ref b1)])) _
    refine XS.iconst X9a.here hx rfl (hb hby at_24) ?_
    show Steps p.tables e below (T9.setTop (mkF m 25 #[.val (.int p1), .val (.int p2), .unset, .unset, .unset, .unset, .unset] [(.int (3 : Int32)), (.ref b1), (.ref b1)])) _
    refine st11 _ ?_
    show Steps p.tables e below (T11.setTop (mkF m 28 #[.val (.int p1), .val (.int p2), .unset, .unset, .unset, .unset, .unset] [(.ref (tt 3)), (.int (3 : Int32)), (.ref b1), (.ref b1)])) _
    refine st12 _ ?_
    exact k
  clear X9a e9 st11 X11 e11 st12 Z9 N9a O9o N12 X12 W12 Ar_b1 q_b1 S_b1 N_b1 H_b1 G_b1 hin28 cl_b1 pre10
  obtain ⟨T14, X14, e14, st14⟩ := getS2 X12a hx hZ hown (host := "") (Or.inl (hw _ (List.mem_of_getElem? (i := 12) rfl))) Via.refl e12 (BS_INTEGER.ext O12o.2) (g := (mkF m 31 #[.val (.int p1), .val (.int p2), .unset, .unset, .unset, .unset, .unset] [(.int (4 : Int32)), (.ref b1), (.ref b1)])) rfl (hb hby at_31)
  obtain ⟨cl_b1, Ar_b1, q_b1, S_b1, N_b1, H_b1, G_b1⟩ := V_b1
  have hin34 : ¬ ((4 : Int32) < 0 ∨ cl_b1.slots.size ≤ ((4 : Int32)).toNatClampNeg) := inb_of S_b1 ⟨by decide, by decide⟩
  obtain ⟨T15, h15, X15, e15, W15, st15⟩ := stR X14 hx hZ e14 Ar_b1 (j := (4 : Int32)) hin34 rfl (Sto.ofV Ar_b1 q_b1 O1 (Ins.self ((EX 4 (by decide)).ext O12o.2))) (g := (mkF m 34 #[.val (.int p1), .val (.int p2), .unset, .unset, .unset, .unset, .unset] [(.ref (tt 4)), (.int (4 : Int32)), (.ref b1), (.ref b1)])) rfl rfl (hb hby at_34)
  have Z15 : n0 ≤ h15.size := Nat.le_trans Z12 (Keep.of_wr W15).1
  have N15 := Fr.snoc X15 N12a g_b1
  have O15o := O12o.wr W15 g_b1
  have V_b1 : Arv Z h15 b1 k1 (.object "com/example/kennet/kennet/xdm/AtomicType") (25 : Int32) [(.ref (tt 0)), (.ref (tt 1)), (.ref (tt 2)), (.ref (tt 3)), (.ref (tt 4)), .null, .null, .null, .null, .null, .null, .null, .null, .null, .null, .null, .null, .null, .null, .null, .null, .null, .null, .null, .null] .null := Arv.set Ar_b1 q_b1 S_b1 N_b1 H_b1 G_b1 rfl W15 4 rfl (Nat.le_of_ble_eq_true rfl)
  obtain ⟨L15a, X15a, N15a⟩ : ∃ L, Stand p l e room_1 s m #[(.int p1), (.int p2)] below meth c T15 L 1 25 ∧ Fr n0 L := ⟨_, X15, N15⟩
  have pre16 : ∀ t, Steps p.tables e below (T15.setTop (mkF m 35 #[.val (.int p1), .val (.int p2), .unset, .unset, .unset, .unset, .unset] [(.ref b1)])) t → Steps p.tables e below (s₁.setTop (entryFrame m #[(.int p1), (.int p2)] maxLocals)) t := by
    intro t k
    refine pre13 _ ?_
    show Steps p.tables e below (T12.setTop (mkF m 29 #[.val (.int p1), .val (.int p2), .unset, .unset, .unset, .unset, .unset] [(.ref b1)])) _
    refine XS.dup X12a.here hx rfl (hb hby at_29) rfl rfl ?_
    show Steps p.tables e below (T12.setTop (mkF m 30 #[.val (.int p1), .val (.int p2), .unset, .unset, .unset, .unset, .unset] [(.ref b1), (.ref b1)])) _
    refine XS.iconst X12a.here hx rfl (hb hby at_30) ?_
    show Steps p.tables e below (T12.setTop (mkF m 31 #[.val (.int p1), .val (.int p2), .unset, .unset, .unset, .unset, .unset] [(.int (4 : Int32)), (.ref b1), (.ref b1)])) _
    refine st14 _ ?_
    show Steps p.tables e below (T14.setTop (mkF m 34 #[.val (.int p1), .val (.int p2), .unset, .unset, .unset, .unset, .unset] [(.ref (tt 4)), (.int (4 : Int32)), (.ref b1), (.ref b1)])) _
    refine st15 _ ?_
    exact k
  clear X12a e12 st14 X14 e14 st15 Z12 N12a O12o N15 X15 W15 Ar_b1 q_b1 S_b1 N_b1 H_b1 G_b1 hin34 cl_b1 pre13
  obtain ⟨T17, X17, e17, st17⟩ := getS2 X15a hx hZ hown (host := "") (Or.inl (hw _ (List.mem_of_getElem? (i := 14) rfl))) Via.refl e15 (BS_NON_POSITIVE_INTEGER.ext O15o.2) (g := (mkF m 37 #[.val (.int p1), .val (.int p2), .unset, .unset, .unset, .unset, .unset] [(.int (5 : Int32)), (.ref b1), (.ref b1)])) rfl (hb hby at_37)
  obtain ⟨cl_b1, Ar_b1, q_b1, S_b1, N_b1, H_b1, G_b1⟩ := V_b1
  have hin40 : ¬ ((5 : Int32) < 0 ∨ cl_b1.slots.size ≤ ((5 : Int32)).toNatClampNeg) := inb_of S_b1 ⟨by decide, by decide⟩
  obtain ⟨T18, h18, X18, e18, W18, st18⟩ := stR X17 hx hZ e17 Ar_b1 (j := (5 : Int32)) hin40 rfl (Sto.ofV Ar_b1 q_b1 O1 (Ins.self ((EX 5 (by decide)).ext O15o.2))) (g := (mkF m 40 #[.val (.int p1), .val (.int p2), .unset, .unset, .unset, .unset, .unset] [(.ref (tt 5)), (.int (5 : Int32)), (.ref b1), (.ref b1)])) rfl rfl (hb hby at_40)
  have Z18 : n0 ≤ h18.size := Nat.le_trans Z15 (Keep.of_wr W18).1
  have N18 := Fr.snoc X18 N15a g_b1
  have O18o := O15o.wr W18 g_b1
  have V_b1 : Arv Z h18 b1 k1 (.object "com/example/kennet/kennet/xdm/AtomicType") (25 : Int32) [(.ref (tt 0)), (.ref (tt 1)), (.ref (tt 2)), (.ref (tt 3)), (.ref (tt 4)), (.ref (tt 5)), .null, .null, .null, .null, .null, .null, .null, .null, .null, .null, .null, .null, .null, .null, .null, .null, .null, .null, .null] .null := Arv.set Ar_b1 q_b1 S_b1 N_b1 H_b1 G_b1 rfl W18 5 rfl (Nat.le_of_ble_eq_true rfl)
  obtain ⟨L18a, X18a, N18a⟩ : ∃ L, Stand p l e room_1 s m #[(.int p1), (.int p2)] below meth c T18 L 1 25 ∧ Fr n0 L := ⟨_, X18, N18⟩
  have pre19 : ∀ t, Steps p.tables e below (T18.setTop (mkF m 41 #[.val (.int p1), .val (.int p2), .unset, .unset, .unset, .unset, .unset] [(.ref b1)])) t → Steps p.tables e below (s₁.setTop (entryFrame m #[(.int p1), (.int p2)] maxLocals)) t := by
    intro t k
    refine pre16 _ ?_
    show Steps p.tables e below (T15.setTop (mkF m 35 #[.val (.int p1), .val (.int p2), .unset, .unset, .unset, .unset, .unset] [(.ref b1)])) _
    refine XS.dup X15a.here hx rfl (hb hby at_35) rfl rfl ?_
    show Steps p.tables e below (T15.setTop (mkF m 36 #[.val (.int p1), .val (.int p2), .unset, .unset, .unset, .unset, .unset] [(.ref b1), (.ref b1)])) _
    refine XS.iconst X15a.here hx rfl (hb hby at_36) ?_
    show Steps p.tables e below (T15.setTop (mkF m 37 #[.val (.int p1), .val (.int p2), .unset, .unset, .unset, .unset, .unset] [(.int (5 : Int32)), (.ref b1), (.ref b1)])) _
    refine st17 _ ?_
    show Steps p.tables e below (T17.setTop (mkF m 40 #[.val (.int p1), .val (.int p2), .unset, .unset, .unset, .unset, .unset] [(.ref (tt 5)), (.int (5 : Int32)), (.ref b1), (.ref b1)])) _
    refine st18 _ ?_
    exact k
  clear X15a e15 st17 X17 e17 st18 Z15 N15a O15o N18 X18 W18 Ar_b1 q_b1 S_b1 N_b1 H_b1 G_b1 hin40 cl_b1 pre16
  obtain ⟨T20, X20, e20, st20⟩ := getS2 X18a hx hZ hown (host := "") (Or.inl (hw _ (List.mem_of_getElem? (i := 16) rfl))) Via.refl e18 (BS_NEGATIVE_INTEGER.ext O18o.2) (g := (mkF m 44 #[.val (.int p1), .val (.int p2), .unset, .unset, .unset, .unset, .unset] [(.int (6 : Int32)), (.ref b1), (.ref b1)])) rfl (hb hby at_44)
  obtain ⟨cl_b1, Ar_b1, q_b1, S_b1, N_b1, H_b1, G_b1⟩ := V_b1
  have hin47 : ¬ ((6 : Int32) < 0 ∨ cl_b1.slots.size ≤ ((6 : Int32)).toNatClampNeg) := inb_of S_b1 ⟨by decide, by decide⟩
  obtain ⟨T21, h21, X21, e21, W21, st21⟩ := stR X20 hx hZ e20 Ar_b1 (j := (6 : Int32)) hin47 rfl (Sto.ofV Ar_b1 q_b1 O1 (Ins.self ((EX 6 (by decide)).ext O18o.2))) (g := (mkF m 47 #[.val (.int p1), .val (.int p2), .unset, .unset, .unset, .unset, .unset] [(.ref (tt 6)), (.int (6 : Int32)), (.ref b1), (.ref b1)])) rfl rfl (hb hby at_47)
  have Z21 : n0 ≤ h21.size := Nat.le_trans Z18 (Keep.of_wr W21).1
  have N21 := Fr.snoc X21 N18a g_b1
  have O21o := O18o.wr W21 g_b1
  have V_b1 : Arv Z h21 b1 k1 (.object "com/example/kennet/kennet/xdm/AtomicType") (25 : Int32) [(.ref (tt 0)), (.ref (tt 1)), (.ref (tt 2)), (.ref (tt 3)), (.ref (tt 4)), (.ref (tt 5)), (.ref (tt 6)), .null, .null, .null, .null, .null, .null, .null, .null, .null, .null, .null, .null, .null, .null, .null, .null, .null, .null] .null := Arv.set Ar_b1 q_b1 S_b1 N_b1 H_b1 G_b1 rfl W21 6 rfl (Nat.le_of_ble_eq_true rfl)
  obtain ⟨L21a, X21a, N21a⟩ : ∃ L, Stand p l e room_1 s m #[(.int p1), (.int p2)] below meth c T21 L 1 25 ∧ Fr n0 L := ⟨_, X21, N21⟩
  have pre22 : ∀ t, Steps p.tables e below (T21.setTop (mkF m 48 #[.val (.int p1), .val (.int p2), .unset, .unset, .unset, .unset, .unset] [(.ref b1)])) t → Steps p.tables e below (s₁.setTop (entryFrame m #[(.int p1), (.int p2)] maxLocals)) t := by
    intro t k
    refine pre19 _ ?_
    show Steps p.tables e below (T18.setTop (mkF m 41 #[.val (.int p1), .val (.int p2), .unset, .unset, .unset, .unset, .unset] [(.ref b1)])) _
    refine XS.dup X18a.here hx rfl (hb hby at_41) rfl rfl ?_
    show Steps p.tables e below (T18.setTop (mkF m 42 #[.val (.int p1), .val (.int p2), .unset, .unset, .unset, .unset, .unset] [(.ref b1), (.ref b1)])) _
    refine XS.bipush X18a.here hx rfl (hb hby at_42) ?_
    show Steps p.tables e below (T18.setTop (mkF m 44 #[.val (.int p1), .val (.int p2), .unset, .unset, .unset, .unset, .unset] [(.int (6 : Int32)), (.ref b1), (.ref b1)])) _
    refine st20 _ ?_
    show Steps p.tables e below (T20.setTop (mkF m 47 #[.val (.int p1), .val (.int p2), .unset, .unset, .unset, .unset, .unset] [(.ref (tt 6)), (.int (6 : Int32)), (.ref b1), (.ref b1)])) _
    refine st21 _ ?_
    exact k
  clear X18a e18 st20 X20 e20 st21 Z18 N18a O18o N21 X21 W21 Ar_b1 q_b1 S_b1 N_b1 H_b1 G_b1 hin47 cl_b1 pre19
  obtain ⟨T23, X23, e23, st23⟩ := getS2 X21a hx hZ hown (host := "") (Or.inl (hw _ (List.mem_of_getElem? (i := 18) rfl))) Via.refl e21 (BS_LONG.ext O21o.2) (g := (mkF m 51 #[.val (.int p1), .val (.int p2), .unset, .unset, .unset, .unset, .unset] [(.int (7 : Int32)), (.ref b1), (.ref b1)])) rfl (hb hby at_51)
  obtain ⟨cl_b1, Ar_b1, q_b1, S_b1, N_b1, H_b1, G_b1⟩ := V_b1
  have hin54 : ¬ ((7 : Int32) < 0 ∨ cl_b1.slots.size ≤ ((7 : Int32)).toNatClampNeg) := inb_of S_b1 ⟨by decide, by decide⟩
  obtain ⟨T24, h24, X24, e24, W24, st24⟩ := stR X23 hx hZ e23 Ar_b1 (j := (7 : Int32)) hin54 rfl (Sto.ofV Ar_b1 q_b1 O1 (Ins.self ((EX 7 (by decide)).ext O21o.2))) (g := (mkF m 54 #[.val (.int p1), .val (.int p2), .unset, .unset, .unset, .unset, .unset] [(.ref (tt 7)), (.int (7 : Int32)), (.ref b1), (.ref b1)])) rfl rfl (hb hby at_54)
  have Z24 : n0 ≤ h24.size := Nat.le_trans Z21 (Keep.of_wr W24).1
  have N24 := Fr.snoc X24 N21a g_b1
  have O24o := O21o.wr W24 g_b1
  have V_b1 : Arv Z h24 b1 k1 (.object "com/example/kennet/kennet/xdm/AtomicType") (25 : Int32) [(.ref (tt 0)), (.ref (tt 1)), (.ref (tt 2)), (.ref (tt 3)), (.ref (tt 4)), (.ref (tt 5)), (.ref (tt 6)), (.ref (tt 7)), .null, .null, .null, .null, .null, .null, .null, .null, .null, .null, .null, .null, .null, .null, .null, .null, .null] .null := Arv.set Ar_b1 q_b1 S_b1 N_b1 H_b1 G_b1 rfl W24 7 rfl (Nat.le_of_ble_eq_true rfl)
  obtain ⟨L24a, X24a, N24a⟩ : ∃ L, Stand p l e room_1 s m #[(.int p1), (.int p2)] below meth c T24 L 1 25 ∧ Fr n0 L := ⟨_, X24, N24⟩
  have pre25 : ∀ t, Steps p.tables e below (T24.setTop (mkF m 55 #[.val (.int p1), .val (.int p2), .unset, .unset, .unset, .unset, .unset] [(.ref b1)])) t → Steps p.tables e below (s₁.setTop (entryFrame m #[(.int p1), (.int p2)] maxLocals)) t := by
    intro t k
    refine pre22 _ ?_
    show Steps p.tables e below (T21.setTop (mkF m 48 #[.val (.int p1), .val (.int p2), .unset, .unset, .unset, .unset, .unset] [(.ref b1)])) _
    refine XS.dup X21a.here hx rfl (hb hby at_48) rfl rfl ?_
    show Steps p.tables e below (T21.setTop (mkF m 49 #[.val (.int p1), .val (.int p2), .unset, .unset, .unset, .unset, .unset] [(.ref b1), (.ref b1)])) _
    refine XS.bipush X21a.here hx rfl (hb hby at_49) ?_
    show Steps p.tables e below (T21.setTop (mkF m 51 #[.val (.int p1), .val (.int p2), .unset, .unset, .unset, .unset, .unset] [(.int (7 : Int32)), (.ref b1), (.ref b1)])) _
    refine st23 _ ?_
    show Steps p.tables e below (T23.setTop (mkF m 54 #[.val (.int p1), .val (.int p2), .unset, .unset, .unset, .unset, .unset] [(.ref (tt 7)), (.int (7 : Int32)), (.ref b1), (.ref b1)])) _
    refine st24 _ ?_
    exact k
  clear X21a e21 st23 X23 e23 st24 Z21 N21a O21o N24 X24 W24 Ar_b1 q_b1 S_b1 N_b1 H_b1 G_b1 hin54 cl_b1 pre22
  obtain ⟨T26, X26, e26, st26⟩ := getS2 X24a hx hZ hown (host := "") (Or.inl (hw _ (List.mem_of_getElem? (i := 20) rfl))) Via.refl e24 (BS_INT.ext O24o.2) (g := (mkF m 58 #[.val (.int p1), .val (.int p2), .unset, .unset, .unset, .unset, .unset] [(.int (8 : Int32)), (.ref b1), (.ref b1)])) rfl (hb hby at_58)
  obtain ⟨cl_b1, Ar_b1, q_b1, S_b1, N_b1, H_b1, G_b1⟩ := V_b1
  have hin61 : ¬ ((8 : Int32) < 0 ∨ cl_b1.slots.size ≤ ((8 : Int32)).toNatClampNeg) := inb_of S_b1 ⟨by decide, by decide⟩
  obtain ⟨T27, h27, X27, e27, W27, st27⟩ := stR X26 hx hZ e26 Ar_b1 (j := (8 : Int32)) hin61 rfl (Sto.ofV Ar_b1 q_b1 O1 (Ins.self ((EX 8 (by decide)).ext O24o.2))) (g := (mkF m 61 #[.val (.int p1), .val (.int p2), .unset, .unset, .unset, .unset, .unset] [(.ref (tt 8)), (.int (8 : Int32)), (.ref b1), (.ref b1)])) rfl rfl (hb hby at_61)
  have Z27 : n0 ≤ h27.size := Nat.le_trans Z24 (Keep.of_wr W27).1
  have N27 := Fr.snoc X27 N24a g_b1
  have O27o := O24o.wr W27 g_b1
  have V_b1 : Arv Z h27 b1 k1 (.object "com/example/kennet/kennet/xdm/AtomicType") (25 : Int32) [(.ref (tt 0)), (.ref (tt 1)), (.ref (tt 2)), (.ref (tt 3)), (.ref (tt 4)), (.ref (tt 5)), (.ref (tt 6)), (.ref (tt 7)), (.ref (tt 8)), .null, .null, .null, .null, .null, .null, .null, .null, .null, .null, .null, .null, .null, .null, .null, .null] .null := Arv.set Ar_b1 q_b1 S_b1 N_b1 H_b1 G_b1 rfl W27 8 rfl (Nat.le_of_ble_eq_true rfl)
  obtain ⟨L27a, X27a, N27a⟩ : ∃ L, Stand p l e room_1 s m #[(.int p1), (.int p2)] below meth c T27 L 1 25 ∧ Fr n0 L := ⟨_, X27, N27⟩
  have pre28 : ∀ t, Steps p.tables e below (T27.setTop (mkF m 62 #[.val (.int p1), .val (.int p2), .unset, .unset, .unset, .unset, .unset] [(.ref b1)])) t → Steps p.tables e below (s₁.setTop (entryFrame m #[(.int p1), (.int p2)] maxLocals)) t := by
    intro t k
    refine pre25 _ ?_
    show Steps p.tables e below (T24.setTop (mkF m 55 #[.val (.int p1), .val (.int p2), .unset, .unset, .unset, .unset, .unset] [(.ref b1)])) _
    refine XS.dup X24a.here hx rfl (hb hby at_55) rfl rfl ?_
    show Steps p.tables e below (T24.setTop (mkF m 56 #[.val (.int p1), .val (.int p2), .unset, .unset, .unset, .unset, .unset] [(.ref b1), (.ref b1)])) _
    refine XS.bipush X24a.here hx rfl (hb hby at_56) ?_
    show Steps p.tables e below (T24.setTop (mkF m 58 #[.val (.int p1), .val (.int p2), .unset, .unset, .unset, .unset, .unset] [(.int (8 : Int32)), (.ref b1), (.ref b1)])) _
    refine st26 _ ?_
    show Steps p.tables e below (T26.setTop (mkF m 61 #[.val (.int p1), .val (.int p2), .unset, .unset, .unset, .unset, .unset] [(.ref (tt 8)), (.int (8 : Int32)), (.ref b1), (.ref b1)])) _
    refine st27 _ ?_
    exact k
  clear X24a e24 st26 X26 e26 st27 Z24 N24a O24o N27 X27 W27 Ar_b1 q_b1 S_b1 N_b1 H_b1 G_b1 hin61 cl_b1 pre25
  obtain ⟨T29, X29, e29, st29⟩ := getS2 X27a hx hZ hown (host := "") (Or.inl (hw _ (List.mem_of_getElem? (i := 22) rfl))) Via.refl e27 (BS_SHORT.ext O27o.2) (g := (mkF m 65 #[.val (.int p1), .val (.int p2), .unset, .unset, .unset, .unset, .unset] [(.int (9 : Int32)), (.ref b1), (.ref b1)])) rfl (hb hby at_65)
  obtain ⟨cl_b1, Ar_b1, q_b1, S_b1, N_b1, H_b1, G_b1⟩ := V_b1
  have hin68 : ¬ ((9 : Int32) < 0 ∨ cl_b1.slots.size ≤ ((9 : Int32)).toNatClampNeg) := inb_of S_b1 ⟨by decide, by decide⟩
  obtain ⟨T30, h30, X30, e30, W30, st30⟩ := stR X29 hx hZ e29 Ar_b1 (j := (9 : Int32)) hin68 rfl (Sto.ofV Ar_b1 q_b1 O1 (Ins.self ((EX 9 (by decide)).ext O27o.2))) (g := (mkF m 68 #[.val (.int p1), .val (.int p2), .unset, .unset, .unset, .unset, .unset] [(.ref (tt 9)), (.int (9 : Int32)), (.ref b1), (.ref b1)])) rfl rfl (hb hby at_68)
  have Z30 : n0 ≤ h30.size := Nat.le_trans Z27 (Keep.of_wr W30).1
  have N30 := Fr.snoc X30 N27a g_b1
  have O30o := O27o.wr W30 g_b1
  have V_b1 : Arv Z h30 b1 k1 (.object "com/example/kennet/kennet/xdm/AtomicType") (25 : Int32) [(.ref (tt 0)), (.ref (tt 1)), (.ref (tt 2)), (.ref (tt 3)), (.ref (tt 4)), (.ref (tt 5)), (.ref (tt 6)), (.ref (tt 7)), (.ref (tt 8)), (.ref (tt 9)), .null, .null, .null, .null, .null, .null, .null, .null, .null, .null, .null, .null, .null, .null, .null] .null := Arv.set Ar_b1 q_b1 S_b1 N_b1 H_b1 G_b1 rfl W30 9 rfl (Nat.le_of_ble_eq_true rfl)
  obtain ⟨L30a, X30a, N30a⟩ : ∃ L, Stand p l e room_1 s m #[(.int p1), (.int p2)] below meth c T30 L 1 25 ∧ Fr n0 L := ⟨_, X30, N30⟩
  have pre31 : ∀ t, Steps p.tables e below (T30.setTop (mkF m 69 #[.val (.int p1), .val (.int p2), .unset, .unset, .unset, .unset, .unset] [(.ref b1)])) t → Steps p.tables e below (s₁.setTop (entryFrame m #[(.int p1), (.int p2)] maxLocals)) t := by
    intro t k
    refine pre28 _ ?_
    show Steps p.tables e below (T27.setTop (mkF m 62 #[.val (.int p1), .val (.int p2), .unset, .unset, .unset, .unset, .unset] [(.ref b1)])) _
    refine XS.dup X27a.here hx rfl (hb hby at_62) rfl rfl ?_
    show Steps p.tables e below (T27.setTop (mkF m 63 #[.val (.int p1), .val (.int p2), .unset, .unset, .unset, .unset, .unset] [(.ref b1), (.ref b1)])) _
    refine XS.bipush X27a.here hx rfl (hb hby at_63) ?_
    show Steps p.tables e below (T27.setTop (mkF m 65 #[.val (.int p1), .val (.int p2), .unset, .unset, .unset, .unset, .unset] [(.int (9 : Int32)), (.ref b1), (.ref b1)])) _
    refine st29 _ ?_
    show Steps p.tables e below (T29.setTop (mkF m 68 #[.val (.int p1), .val (.int p2), .unset, .unset, .unset, .unset, .unset] [(.ref (tt 9)), (.int (9 : Int32)), (.ref b1), (.ref b1)])) _
    refine st30 _ ?_
    exact k
  clear X27a e27 st29 X29 e29 st30 Z27 N27a O27o N30 X30 W30 Ar_b1 q_b1 S_b1 N_b1 H_b1 G_b1 hin68 cl_b1 pre28
  obtain ⟨T32, X32, e32, st32⟩ := getS2 X30a hx hZ hown (host := "") (Or.inl (hw _ (List.mem_of_getElem? (i := 24) rfl))) Via.refl e30 (BS_BYTE.ext O30o.2) (g := (mkF m 72 #[.val (.int p1), .val (.int p2), .unset, .unset, .unset, .unset, .unset] [(.int (10 : Int32)), (.ref b1), (.ref b1)])) rfl (hb hby at_72)
  obtain ⟨cl_b1, Ar_b1, q_b1, S_b1, N_b1, H_b1, G_b1⟩ := V_b1
  have hin75 : ¬ ((10 : Int32) < 0 ∨ cl_b1.slots.size ≤ ((10 : Int32)).toNatClampNeg) := inb_of S_b1 ⟨by decide, by decide⟩
  obtain ⟨T33, h33, X33, e33, W33, st33⟩ := stR X32 hx hZ e32 Ar_b1 (j := (10 : Int32)) hin75 rfl (Sto.ofV Ar_b1 q_b1 O1 (Ins.self ((EX 10 (by decide)).ext O30o.2))) (g := (mkF m 75 #[.val (.int p1), .val (.int p2), .unset, .unset, .unset, .unset, .unset] [(.ref (tt 10)), (.int (10 : Int32)), (.ref b1), (.ref b1)])) rfl rfl (hb hby at_75)
  have Z33 : n0 ≤ h33.size := Nat.le_trans Z30 (Keep.of_wr W33).1
  have N33 := Fr.snoc X33 N30a g_b1
  have O33o := O30o.wr W33 g_b1
  have V_b1 : Arv Z h33 b1 k1 (.object "com/example/kennet/kennet/xdm/AtomicType") (25 : Int32) [(.ref (tt 0)), (.ref (tt 1)), (.ref (tt 2)), (.ref (tt 3)), (.ref (tt 4)), (.ref (tt 5)), (.ref (tt 6)), (.ref (tt 7)), (.ref (tt 8)), (.ref (tt 9)), (.ref (tt 10)), .null, .null, .null, .null, .null, .null, .null, .null, .null, .null, .null, .null, .null, .null] .null := Arv.set Ar_b1 q_b1 S_b1 N_b1 H_b1 G_b1 rfl W33 10 rfl (Nat.le_of_ble_eq_true rfl)
  obtain ⟨L33a, X33a, N33a⟩ : ∃ L, Stand p l e room_1 s m #[(.int p1), (.int p2)] below meth c T33 L 1 25 ∧ Fr n0 L := ⟨_, X33, N33⟩
  have pre34 : ∀ t, Steps p.tables e below (T33.setTop (mkF m 76 #[.val (.int p1), .val (.int p2), .unset, .unset, .unset, .unset, .unset] [(.ref b1)])) t → Steps p.tables e below (s₁.setTop (entryFrame m #[(.int p1), (.int p2)] maxLocals)) t := by
    intro t k
    refine pre31 _ ?_
    show Steps p.tables e below (T30.setTop (mkF m 69 #[.val (.int p1), .val (.int p2), .unset, .unset, .unset, .unset, .unset] [(.ref b1)])) _
    refine XS.dup X30a.here hx rfl (hb hby at_69) rfl rfl ?_
    show Steps p.tables e below (T30.setTop (mkF m 70 #[.val (.int p1), .val (.int p2), .unset, .unset, .unset, .unset, .unset] [(.ref b1), (.ref b1)])) _
    refine XS.bipush X30a.here hx rfl (hb hby at_70) ?_
    show Steps p.tables e below (T30.setTop (mkF m 72 #[.val (.int p1), .val (.int p2), .unset, .unset, .unset, .unset, .unset] [(.int (10 : Int32)), (.ref b1), (.ref b1)])) _
    refine st32 _ ?_
    show Steps p.tables e below (T32.setTop (mkF m 75 #[.val (.int p1), .val (.int p2), .unset, .unset, .unset, .unset, .unset] [(.ref (tt 10)), (.int (10 : Int32)), (.ref b1), (.ref b1)])) _
    refine st33 _ ?_
    exact k
  clear X30a e30 st32 X32 e32 st33 Z30 N30a O30o N33 X33 W33 Ar_b1 q_b1 S_b1 N_b1 H_b1 G_b1 hin75 cl_b1 pre31
  obtain ⟨T35, X35, e35, st35⟩ := getS2 X33a hx hZ hown (host := "") (Or.inl (hw _ (List.mem_of_getElem? (i := 26) rfl))) Via.refl e33 (BS_NON_NEGATIVE_INTEGER.ext O33o.2) (g := (mkF m 79 #[.val (.int p1), .val (.int p2), .unset, .unset, .unset, .unset, .unset] [(.int (11 : Int32)), (.ref b1), (.ref b1)])) rfl (hb hby at_79)
  obtain ⟨cl_b1, Ar_b1, q_b1, S_b1, N_b1, H_b1, G_b1⟩ := V_b1
  have hin82 : ¬ ((11 : Int32) < 0 ∨ cl_b1.slots.size ≤ ((11 : Int32)).toNatClampNeg) := inb_of S_b1 ⟨by decide, by decide⟩
  obtain ⟨T36, h36, X36, e36, W36, st36⟩ := stR X35 hx hZ e35 Ar_b1 (j := (11 : Int32)) hin82 rfl (Sto.ofV Ar_b1 q_b1 O1 (Ins.self ((EX 11 (by decide)).ext O33o.2))) (g := (mkF m 82 #[.val (.int p1), .val (.int p2), .unset, .unset, .unset, .unset, .unset] [(.ref (tt 11)), (.int (11 : Int32)), (.ref b1), (.ref b1)])) rfl rfl (hb hby at_82)
  have Z36 : n0 ≤ h36.size := Nat.le_trans Z33 (Keep.of_wr W36).1
  have N36 := Fr.snoc X36 N33a g_b1
  have O36o := O33o.wr W36 g_b1
  have V_b1 : Arv Z h36 b1 k1 (.object "com/example/kennet/kennet/xdm/AtomicType") (25 : Int32) [(.ref (tt 0)), (.ref (tt 1)), (.ref (tt 2)), (.ref (tt 3)), (.ref (tt 4)), (.ref (tt 5)), (.ref (tt 6)), (.ref (tt 7)), (.ref (tt 8)), (.ref (tt 9)), (.ref (tt 10)), (.ref (tt 11)), .null, .null, .null, .null, .null, .null, .null, .null, .null, .null, .null, .null, .null] .null := Arv.set Ar_b1 q_b1 S_b1 N_b1 H_b1 G_b1 rfl W36 11 rfl (Nat.le_of_ble_eq_true rfl)
  obtain ⟨L36a, X36a, N36a⟩ : ∃ L, Stand p l e room_1 s m #[(.int p1), (.int p2)] below meth c T36 L 1 25 ∧ Fr n0 L := ⟨_, X36, N36⟩
  have pre37 : ∀ t, Steps p.tables e below (T36.setTop (mkF m 83 #[.val (.int p1), .val (.int p2), .unset, .unset, .unset, .unset, .unset] [(.ref b1)])) t → Steps p.tables e below (s₁.setTop (entryFrame m #[(.int p1), (.int p2)] maxLocals)) t := by
    intro t k
    refine pre34 _ ?_
    show Steps p.tables e below (T33.setTop (mkF m 76 #[.val (.int p1), .val (.int p2), .unset, .unset, .unset, .unset, .unset] [(.ref b1)])) _
    refine XS.dup X33a.here hx rfl (hb hby at_76) rfl rfl ?_
    show Steps p.tables e below (T33.setTop (mkF m 77 #[.val (.int p1), .val (.int p2), .unset, .unset, .unset, .unset, .unset] [(.ref b1), (.ref b1)])) _
    refine XS.bipush X33a.here hx rfl (hb hby at_77) ?_
    show Steps p.tables e below (T33.setTop (mkF m 79 #[.val (.int p1), .val (.int p2), .unset, .unset, .unset, .unset, .unset] [(.int (11 : Int32)), (.ref b1), (.ref b1)])) _
    refine st35 _ ?_
    show Steps p.tables e below (T35.setTop (mkF m 82 #[.val (.int p1), .val (.int p2), .unset, .unset, .unset, .unset, .unset] [(.ref (tt 11)), (.int (11 : Int32)), (.ref b1), (.ref b1)])) _
    refine st36 _ ?_
    exact k
  clear X33a e33 st35 X35 e35 st36 Z33 N33a O33o N36 X36 W36 Ar_b1 q_b1 S_b1 N_b1 H_b1 G_b1 hin82 cl_b1 pre34
  obtain ⟨T38, X38, e38, st38⟩ := getS2 X36a hx hZ hown (host := "") (Or.inl (hw _ (List.mem_of_getElem? (i := 28) rfl))) Via.refl e36 (BS_UNSIGNED_LONG.ext O36o.2) (g := (mkF m 86 #[.val (.int p1), .val (.int p2), .unset, .unset, .unset, .unset, .unset] [(.int (12 : Int32)), (.ref b1), (.ref b1)])) rfl (hb hby at_86)
  obtain ⟨cl_b1, Ar_b1, q_b1, S_b1, N_b1, H_b1, G_b1⟩ := V_b1
  have hin89 : ¬ ((12 : Int32) < 0 ∨ cl_b1.slots.size ≤ ((12 : Int32)).toNatClampNeg) := inb_of S_b1 ⟨by decide, by decide⟩
  obtain ⟨T39, h39, X39, e39, W39, st39⟩ := stR X38 hx hZ e38 Ar_b1 (j := (12 : Int32)) hin89 rfl (Sto.ofV Ar_b1 q_b1 O1 (Ins.self ((EX 12 (by decide)).ext O36o.2))) (g := (mkF m 89 #[.val (.int p1), .val (.int p2), .unset, .unset, .unset, .unset, .unset] [(.ref (tt 12)), (.int (12 : Int32)), (.ref b1), (.ref b1)])) rfl rfl (hb hby at_89)
  have Z39 : n0 ≤ h39.size := Nat.le_trans Z36 (Keep.of_wr W39).1
  have N39 := Fr.snoc X39 N36a g_b1
  have O39o := O36o.wr W39 g_b1
  have V_b1 : Arv Z h39 b1 k1 (.object "com/example/kennet/kennet/xdm/AtomicType") (25 : Int32) [(.ref (tt 0)), (.ref (tt 1)), (.ref (tt 2)), (.ref (tt 3)), (.ref (tt 4)), (.ref (tt 5)), (.ref (tt 6)), (.ref (tt 7)), (.ref (tt 8)), (.ref (tt 9)), (.ref (tt 10)), (.ref (tt 11)), (.ref (tt 12)), .null, .null, .null, .null, .null, .null, .null, .null, .null, .null, .null, .null] .null := Arv.set Ar_b1 q_b1 S_b1 N_b1 H_b1 G_b1 rfl W39 12 rfl (Nat.le_of_ble_eq_true rfl)
  obtain ⟨L39a, X39a, N39a⟩ : ∃ L, Stand p l e room_1 s m #[(.int p1), (.int p2)] below meth c T39 L 1 25 ∧ Fr n0 L := ⟨_, X39, N39⟩
  have pre40 : ∀ t, Steps p.tables e below (T39.setTop (mkF m 90 #[.val (.int p1), .val (.int p2), .unset, .unset, .unset, .unset, .unset] [(.ref b1)])) t → Steps p.tables e below (s₁.setTop (entryFrame m #[(.int p1), (.int p2)] maxLocals)) t := by
    intro t k
    refine pre37 _ ?_
    show Steps p.tables e below (T36.setTop (mkF m 83 #[.val (.int p1), .val (.int p2), .unset, .unset, .unset, .unset, .unset] [(.ref b1)])) _
    refine XS.dup X36a.here hx rfl (hb hby at_83) rfl rfl ?_
    show Steps p.tables e below (T36.setTop (mkF m 84 #[.val (.int p1), .val (.int p2), .unset, .unset, .unset, .unset, .unset] [(.ref b1), (.ref b1)])) _
    refine XS.bipush X36a.here hx rfl (hb hby at_84) ?_
    show Steps p.tables e below (T36.setTop (mkF m 86 #[.val (.int p1), .val (.int p2), .unset, .unset, .unset, .unset, .unset] [(.int (12 : Int32)), (.ref b1), (.ref b1)])) _
    refine st38 _ ?_
    show Steps p.tables e below (T38.setTop (mkF m 89 #[.val (.int p1), .val (.int p2), .unset, .unset, .unset, .unset, .unset] [(.ref (tt 12)), (.int (12 : Int32)), (.ref b1), (.ref b1)])) _
    refine st39 _ ?_
    exact k
  clear X36a e36 st38 X38 e38 st39 Z36 N36a O36o N39 X39 W39 Ar_b1 q_b1 S_b1 N_b1 H_b1 G_b1 hin89 cl_b1 pre37
  obtain ⟨T41, X41, e41, st41⟩ := getS2 X39a hx hZ hown (host := "") (Or.inl (hw _ (List.mem_of_getElem? (i := 30) rfl))) Via.refl e39 (BS_UNSIGNED_INT.ext O39o.2) (g := (mkF m 93 #[.val (.int p1), .val (.int p2), .unset, .unset, .unset, .unset, .unset] [(.int (13 : Int32)), (.ref b1), (.ref b1)])) rfl (hb hby at_93)
  obtain ⟨cl_b1, Ar_b1, q_b1, S_b1, N_b1, H_b1, G_b1⟩ := V_b1
  have hin96 : ¬ ((13 : Int32) < 0 ∨ cl_b1.slots.size ≤ ((13 : Int32)).toNatClampNeg) := inb_of S_b1 ⟨by decide, by decide⟩
  obtain ⟨T42, h42, X42, e42, W42, st42⟩ := stR X41 hx hZ e41 Ar_b1 (j := (13 : Int32)) hin96 rfl (Sto.ofV Ar_b1 q_b1 O1 (Ins.self ((EX 13 (by decide)).ext O39o.2))) (g := (mkF m 96 #[.val (.int p1), .val (.int p2), .unset, .unset, .unset, .unset, .unset] [(.ref (tt 13)), (.int (13 : Int32)), (.ref b1), (.ref b1)])) rfl rfl (hb hby at_96)
  have Z42 : n0 ≤ h42.size := Nat.le_trans Z39 (Keep.of_wr W42).1
  have N42 := Fr.snoc X42 N39a g_b1
  have O42o := O39o.wr W42 g_b1
  have V_b1 : Arv Z h42 b1 k1 (.object "com/example/kennet/kennet/xdm/AtomicType") (25 : Int32) [(.ref (tt 0)), (.ref (tt 1)), (.ref (tt 2)), (.ref (tt 3)), (.ref (tt 4)), (.ref (tt 5)), (.ref (tt 6)), (.ref (tt 7)), (.ref (tt 8)), (.ref (tt 9)), (.ref (tt 10)), (.ref (tt 11)), (.ref (tt 12)), (.ref (tt 13)), .null, .null, .null, .null, .null, .null, .null, .null, .null, .null, .null] .null := Arv.set Ar_b1 q_b1 S_b1 N_b1 H_b1 G_b1 rfl W42 13 rfl (Nat.le_of_ble_eq_true rfl)
  obtain ⟨L42a, X42a, N42a⟩ : ∃ L, Stand p l e room_1 s m #[(.int p1), (.int p2)] below meth c T42 L 1 25 ∧ Fr n0 L := ⟨_, X42, N42⟩
  have pre43 : ∀ t, Steps p.tables e below (T42.setTop (mkF m 97 #[.val (.int p1), .val (.int p2), .unset, .unset, .unset, .unset, .unset] [(.ref b1)])) t → Steps p.tables e below (s₁.setTop (entryFrame m #[(.int p1), (.int p2)] maxLocals)) t := by
    intro t k
    refine pre40 _ ?_
    show Steps p.tables e below (T39.setTop (mkF m 90 #[.val (.int p1), .val (.int p2), .unset, .unset, .unset, .unset, .unset] [(.ref b1)])) _
    refine XS.dup X39a.here hx rfl (hb hby at_90) rfl rfl ?_
    show Steps p.tables e below (T39.setTop (mkF m 91 #[.val (.int p1), .val (.int p2), .unset, .unset, .unset, .unset, .unset] [(.ref b1), (.ref b1)])) _
    refine XS.bipush X39a.here hx rfl (hb hby at_91) ?_
    show Steps p.tables e below (T39.setTop (mkF m 93 #[.val (.int p1), .val (.int p2), .unset, .unset, .unset, .unset, .unset] [(.int (13 : Int32)), (.ref b1), (.ref b1)])) _
    refine st41 _ ?_
    show Steps p.tables e below (T41.setTop (mkF m 96 #[.val (.int p1), .val (.int p2), .unset, .unset, .unset, .unset, .unset] [(.ref (tt 13)), (.int (13 : Int32)), (.ref b1), (.ref b1)])) _
    refine st42 _ ?_
    exact k
  clear X39a e39 st41 X41 e41 st42 Z39 N39a O39o N42 X42 W42 Ar_b1 q_b1 S_b1 N_b1 H_b1 G_b1 hin96 cl_b1 pre40
  obtain ⟨T44, X44, e44, st44⟩ := getS2 X42a hx hZ hown (host := "") (Or.inl (hw _ (List.mem_of_getElem? (i := 32) rfl))) Via.refl e42 (BS_UNSIGNED_SHORT.ext O42o.2) (g := (mkF m 100 #[.val (.int p1), .val (.int p2), .unset, .unset, .unset, .unset, .unset] [(.int (14 : Int32)), (.ref b1), (.ref b1)])) rfl (hb hby at_100)
  obtain ⟨cl_b1, Ar_b1, q_b1, S_b1, N_b1, H_b1, G_b1⟩ := V_b1
  have hin103 : ¬ ((14 : Int32) < 0 ∨ cl_b1.slots.size ≤ ((14 : Int32)).toNatClampNeg) := inb_of S_b1 ⟨by decide, by decide⟩
  obtain ⟨T45, h45, X45, e45, W45, st45⟩ := stR X44 hx hZ e44 Ar_b1 (j := (14 : Int32)) hin103 rfl (Sto.ofV Ar_b1 q_b1 O1 (Ins.self ((EX 14 (by decide)).ext O42o.2))) (g := (mkF m 103 #[.val (.int p1), .val (.int p2), .unset, .unset, .unset, .unset, .unset] [(.ref (tt 14)), (.int (14 : Int32)), (.ref b1), (.ref b1)])) rfl rfl (hb hby at_103)
  have Z45 : n0 ≤ h45.size := Nat.le_trans Z42 (Keep.of_wr W45).1
  have N45 := Fr.snoc X45 N42a g_b1
  have O45o := O42o.wr W45 g_b1
  have V_b1 : Arv Z h45 b1 k1 (.object "com/example/kennet/kennet/xdm/AtomicType") (25 : Int32) [(.ref (tt 0)), (.ref (tt 1)), (.ref (tt 2)), (.ref (tt 3)), (.ref (tt 4)), (.ref (tt 5)), (.ref (tt 6)), (.ref (tt 7)), (.ref (tt 8)), (.ref (tt 9)), (.ref (tt 10)), (.ref (tt 11)), (.ref (tt 12)), (.ref (tt 13)), (.ref (tt 14)), .null, .null, .null, .null, .null, .null, .null, .null, .null, .null] .null := Arv.set Ar_b1 q_b1 S_b1 N_b1 H_b1 G_b1 rfl W45 14 rfl (Nat.le_of_ble_eq_true rfl)
  obtain ⟨L45a, X45a, N45a⟩ : ∃ L, Stand p l e room_1 s m #[(.int p1), (.int p2)] below meth c T45 L 1 25 ∧ Fr n0 L := ⟨_, X45, N45⟩
  have pre46 : ∀ t, Steps p.tables e below (T45.setTop (mkF m 104 #[.val (.int p1), .val (.int p2), .unset, .unset, .unset, .unset, .unset] [(.ref b1)])) t → Steps p.tables e below (s₁.setTop (entryFrame m #[(.int p1), (.int p2)] maxLocals)) t := by
    intro t k
    refine pre43 _ ?_
    show Steps p.tables e below (T42.setTop (mkF m 97 #[.val (.int p1), .val (.int p2), .unset, .unset, .unset, .unset, .unset] [(.ref b1)])) _
    refine XS.dup X42a.here hx rfl (hb hby at_97) rfl rfl ?_
    show Steps p.tables e below (T42.setTop (mkF m 98 #[.val (.int p1), .val (.int p2), .unset, .unset, .unset, .unset, .unset] [(.ref b1), (.ref b1)])) _
    refine XS.bipush X42a.here hx rfl (hb hby at_98) ?_
    show Steps p.tables e below (T42.setTop (mkF m 100 #[.val (.int p1), .val (.int p2), .unset, .unset, .unset, .unset, .unset] [(.int (14 : Int32)), (.ref b1), (.ref b1)])) _
    refine st44 _ ?_
    show Steps p.tables e below (T44.setTop (mkF m 103 #[.val (.int p1), .val (.int p2), .unset, .unset, .unset, .unset, .unset] [(.ref (tt 14)), (.int (14 : Int32)), (.ref b1), (.ref b1)])) _
    refine st45 _ ?_
    exact k
  clear X42a e42 st44 X44 e44 st45 Z42 N42a O42o N45 X45 W45 Ar_b1 q_b1 S_b1 N_b1 H_b1 G_b1 hin103 cl_b1 pre43
  obtain ⟨T47, X47, e47, st47⟩ := getS2 X45a hx hZ hown (host := "") (Or.inl (hw _ (List.mem_of_getElem? (i := 34) rfl))) Via.refl e45 (BS_UNSIGNED_BYTE.ext O45o.2) (g := (mkF m 107 #[.val (.int p1), .val (.int p2), .unset, .unset, .unset, .unset, .unset] [(.int (15 : Int32)), (.ref b1), (.ref b1)])) rfl (hb hby at_107)
  obtain ⟨cl_b1, Ar_b1, q_b1, S_b1, N_b1, H_b1, G_b1⟩ := V_b1
  have hin110 : ¬ ((15 : Int32) < 0 ∨ cl_b1.slots.size ≤ ((15 : Int32)).toNatClampNeg) := inb_of S_b1 ⟨by decide, by decide⟩
  obtain ⟨T48, h48, X48, e48, W48, st48⟩ := stR X47 hx hZ e47 Ar_b1 (j := (15 : Int32)) hin110 rfl (Sto.ofV Ar_b1 q_b1 O1 (Ins.self ((EX 15 (by decide)).ext O45o.2))) (g := (mkF m 110 #[.val (.int p1), .val (.int p2), .unset, .unset, .unset, .unset, .unset] [(.ref (tt 15)), (.int (15 : Int32)), (.ref b1), (.ref b1)])) rfl rfl (hb hby at_110)
  have Z48 : n0 ≤ h48.size := Nat.le_trans Z45 (Keep.of_wr W48).1
  have N48 := Fr.snoc X48 N45a g_b1
  have O48o := O45o.wr W48 g_b1
  have V_b1 : Arv Z h48 b1 k1 (.object "com/example/kennet/kennet/xdm/AtomicType") (25 : Int32) [(.ref (tt 0)), (.ref (tt 1)), (.ref (tt 2)), (.ref (tt 3)), (.ref (tt 4)), (.ref (tt 5)), (.ref (tt 6)), (.ref (tt 7)), (.ref (tt 8)), (.ref (tt 9)), (.ref (tt 10)), (.ref (tt 11)), (.ref (tt 12)), (.ref (tt 13)), (.ref (tt 14)), (.ref (tt 15)), .null, .null, .null, .null, .null, .null, .null, .null, .null] .null := Arv.set Ar_b1 q_b1 S_b1 N_b1 H_b1 G_b1 rfl W48 15 rfl (Nat.le_of_ble_eq_true rfl)
  obtain ⟨L48a, X48a, N48a⟩ : ∃ L, Stand p l e room_1 s m #[(.int p1), (.int p2)] below meth c T48 L 1 25 ∧ Fr n0 L := ⟨_, X48, N48⟩
  have pre49 : ∀ t, Steps p.tables e below (T48.setTop (mkF m 111 #[.val (.int p1), .val (.int p2), .unset, .unset, .unset, .unset, .unset] [(.ref b1)])) t → Steps p.tables e below (s₁.setTop (entryFrame m #[(.int p1), (.int p2)] maxLocals)) t := by
    intro t k
    refine pre46 _ ?_
    show Steps p.tables e below (T45.setTop (mkF m 104 #[.val (.int p1), .val (.int p2), .unset, .unset, .unset, .unset, .unset] [(.ref b1)])) _
    refine XS.dup X45a.here hx rfl (hb hby at_104) rfl rfl ?_
    show Steps p.tables e below (T45.setTop (mkF m 105 #[.val (.int p1), .val (.int p2), .unset, .unset, .unset, .unset, .unset] [(.ref b1), (.ref b1)])) _
    refine XS.bipush X45a.here hx rfl (hb hby at_105) ?_
    show Steps p.tables e below (T45.setTop (mkF m 107 #[.val (.int p1), .val (.int p2), .unset, .unset, .unset, .unset, .unset] [(.int (15 : Int32)), (.ref b1), (.ref b1)])) _
    refine st47 _ ?_
    show Steps p.tables e below (T47.setTop (mkF m 110 #[.val (.int p1), .val (.int p2), .unset, .unset, .unset, .unset, .unset] [(.ref (tt 15)), (.int (15 : Int32)), (.ref b1), (.ref b1)])) _
    refine st48 _ ?_
    exact k
  clear X45a e45 st47 X47 e47 st48 Z45 N45a O45o N48 X48 W48 Ar_b1 q_b1 S_b1 N_b1 H_b1 G_b1 hin110 cl_b1 pre46
  obtain ⟨T50, X50, e50, st50⟩ := getS2 X48a hx hZ hown (host := "") (Or.inl (hw _ (List.mem_of_getElem? (i := 36) rfl))) Via.refl e48 (BS_POSITIVE_INTEGER.ext O48o.2) (g := (mkF m 114 #[.val (.int p1), .val (.int p2), .unset, .unset, .unset, .unset, .unset] [(.int (16 : Int32)), (.ref b1), (.ref b1)])) rfl (hb hby at_114)
  obtain ⟨cl_b1, Ar_b1, q_b1, S_b1, N_b1, H_b1, G_b1⟩ := V_b1
  have hin117 : ¬ ((16 : Int32) < 0 ∨ cl_b1.slots.size ≤ ((16 : Int32)).toNatClampNeg) := inb_of S_b1 ⟨by decide, by decide⟩
  obtain ⟨T51, h51, X51, e51, W51, st51⟩ := stR X50 hx hZ e50 Ar_b1 (j := (16 : Int32)) hin117 rfl (Sto.ofV Ar_b1 q_b1 O1 (Ins.self ((EX 16 (by decide)).ext O48o.2))) (g := (mkF m 117 #[.val (.int p1), .val (.int p2), .unset, .unset, .unset, .unset, .unset] [(.ref (tt 16)), (.int (16 : Int32)), (.ref b1), (.ref b1)])) rfl rfl (hb hby at_117)
  have Z51 : n0 ≤ h51.size := Nat.le_trans Z48 (Keep.of_wr W51).1
  have N51 := Fr.snoc X51 N48a g_b1
  have O51o := O48o.wr W51 g_b1
  have V_b1 : Arv Z h51 b1 k1 (.object "com/example/kennet/kennet/xdm/AtomicType") (25 : Int32) [(.ref (tt 0)), (.ref (tt 1)), (.ref (tt 2)), (.ref (tt 3)), (.ref (tt 4)), (.ref (tt 5)), (.ref (tt 6)), (.ref (tt 7)), (.ref (tt 8)), (.ref (tt 9)), (.ref (tt 10)), (.ref (tt 11)), (.ref (tt 12)), (.ref (tt 13)), (.ref (tt 14)), (.ref (tt 15)), (.ref (tt 16)), .null, .null, .null, .null, .null, .null, .null, .null] .null := Arv.set Ar_b1 q_b1 S_b1 N_b1 H_b1 G_b1 rfl W51 16 rfl (Nat.le_of_ble_eq_true rfl)
  obtain ⟨L51a, X51a, N51a⟩ : ∃ L, Stand p l e room_1 s m #[(.int p1), (.int p2)] below meth c T51 L 1 25 ∧ Fr n0 L := ⟨_, X51, N51⟩
  have pre52 : ∀ t, Steps p.tables e below (T51.setTop (mkF m 118 #[.val (.int p1), .val (.int p2), .unset, .unset, .unset, .unset, .unset] [(.ref b1)])) t → Steps p.tables e below (s₁.setTop (entryFrame m #[(.int p1), (.int p2)] maxLocals)) t := by
    intro t k
    refine pre49 _ ?_
    show Steps p.tables e below (T48.setTop (mkF m 111 #[.val (.int p1), .val (.int p2), .unset, .unset, .unset, .unset, .unset] [(.ref b1)])) _
    refine XS.dup X48a.here hx rfl (hb hby at_111) rfl rfl ?_
    show Steps p.tables e below (T48.setTop (mkF m 112 #[.val (.int p1), .val (.int p2), .unset, .unset, .unset, .unset, .unset] [(.ref b1), (.ref b1)])) _
    refine XS.bipush X48a.here hx rfl (hb hby at_112) ?_
    show Steps p.tables e below (T48.setTop (mkF m 114 #[.val (.int p1), .val (.int p2), .unset, .unset, .unset, .unset, .unset] [(.int (16 : Int32)), (.ref b1), (.ref b1)])) _
    refine st50 _ ?_
    show Steps p.tables e below (T50.setTop (mkF m 117 #[.val (.int p1), .val (.int p2), .unset, .unset, .unset, .unset, .unset] [(.ref (tt 16)), (.int (16 : Int32)), (.ref b1), (.ref b1)])) _
    refine st51 _ ?_
    exact k
  clear X48a e48 st50 X50 e50 st51 Z48 N48a O48o N51 X51 W51 Ar_b1 q_b1 S_b1 N_b1 H_b1 G_b1 hin117 cl_b1 pre49
  obtain ⟨T53, X53, e53, st53⟩ := getS2 X51a hx hZ hown (host := "") (Or.inl (hw _ (List.mem_of_getElem? (i := 38) rfl))) Via.refl e51 (BS_FLOAT.ext O51o.2) (g := (mkF m 121 #[.val (.int p1), .val (.int p2), .unset, .unset, .unset, .unset, .unset] [(.int (17 : Int32)), (.ref b1), (.ref b1)])) rfl (hb hby at_121)
  obtain ⟨cl_b1, Ar_b1, q_b1, S_b1, N_b1, H_b1, G_b1⟩ := V_b1
  have hin124 : ¬ ((17 : Int32) < 0 ∨ cl_b1.slots.size ≤ ((17 : Int32)).toNatClampNeg) := inb_of S_b1 ⟨by decide, by decide⟩
  obtain ⟨T54, h54, X54, e54, W54, st54⟩ := stR X53 hx hZ e53 Ar_b1 (j := (17 : Int32)) hin124 rfl (Sto.ofV Ar_b1 q_b1 O1 (Ins.self ((EX 17 (by decide)).ext O51o.2))) (g := (mkF m 124 #[.val (.int p1), .val (.int p2), .unset, .unset, .unset, .unset, .unset] [(.ref (tt 17)), (.int (17 : Int32)), (.ref b1), (.ref b1)])) rfl rfl (hb hby at_124)
  have Z54 : n0 ≤ h54.size := Nat.le_trans Z51 (Keep.of_wr W54).1
  have N54 := Fr.snoc X54 N51a g_b1
  have O54o := O51o.wr W54 g_b1
  have V_b1 : Arv Z h54 b1 k1 (.object "com/example/kennet/kennet/xdm/AtomicType") (25 : Int32) [(.ref (tt 0)), (.ref (tt 1)), (.ref (tt 2)), (.ref (tt 3)), (.ref (tt 4)), (.ref (tt 5)), (.ref (tt 6)), (.ref (tt 7)), (.ref (tt 8)), (.ref (tt 9)), (.ref (tt 10)), (.ref (tt 11)), (.ref (tt 12)), (.ref (tt 13)), (.ref (tt 14)), (.ref (tt 15)), (.ref (tt 16)), (.ref (tt 17)), .null, .null, .null, .null, .null, .null, .null] .null := Arv.set Ar_b1 q_b1 S_b1 N_b1 H_b1 G_b1 rfl W54 17 rfl (Nat.le_of_ble_eq_true rfl)
  obtain ⟨L54a, X54a, N54a⟩ : ∃ L, Stand p l e room_1 s m #[(.int p1), (.int p2)] below meth c T54 L 1 25 ∧ Fr n0 L := ⟨_, X54, N54⟩
  have pre55 : ∀ t, Steps p.tables e below (T54.setTop (mkF m 125 #[.val (.int p1), .val (.int p2), .unset, .unset, .unset, .unset, .unset] [(.ref b1)])) t → Steps p.tables e below (s₁.setTop (entryFrame m #[(.int p1), (.int p2)] maxLocals)) t := by
    intro t k
    refine pre52 _ ?_
    show Steps p.tables e below (T51.setTop (mkF m 118 #[.val (.int p1), .val (.int p2), .unset, .unset, .unset, .unset, .unset] [(.ref b1)])) _
    refine XS.dup X51a.here hx rfl (hb hby at_118) rfl rfl ?_
    show Steps p.tables e below (T51.setTop (mkF m 119 #[.val (.int p1), .val (.int p2), .unset, .unset, .unset, .unset, .unset] [(.ref b1), (.ref b1)])) _
    refine XS.bipush X51a.here hx rfl (hb hby at_119) ?_
    show Steps p.tables e below (T51.setTop (mkF m 121 #[.val (.int p1), .val (.int p2), .unset, .unset, .unset, .unset, .unset] [(.int (17 : Int32)), (.ref b1), (.ref b1)])) _
    refine st53 _ ?_
    show Steps p.tables e below (T53.setTop (mkF m 124 #[.val (.int p1), .val (.int p2), .unset, .unset, .unset, .unset, .unset] [(.ref (tt 17)), (.int (17 : Int32)), (.ref b1), (.ref b1)])) _
    refine st54 _ ?_
    exact k
  clear X51a e51 st53 X53 e53 st54 Z51 N51a O51o N54 X54 W54 Ar_b1 q_b1 S_b1 N_b1 H_b1 G_b1 hin124 cl_b1 pre52
  obtain ⟨T56, X56, e56, st56⟩ := getS2 X54a hx hZ hown (host := "") (Or.inl (hw _ (List.mem_of_getElem? (i := 40) rfl))) Via.refl e54 (BS_DOUBLE.ext O54o.2) (g := (mkF m 128 #[.val (.int p1), .val (.int p2), .unset, .unset, .unset, .unset, .unset] [(.int (18 : Int32)), (.ref b1), (.ref b1)])) rfl (hb hby at_128)
  obtain ⟨cl_b1, Ar_b1, q_b1, S_b1, N_b1, H_b1, G_b1⟩ := V_b1
  have hin131 : ¬ ((18 : Int32) < 0 ∨ cl_b1.slots.size ≤ ((18 : Int32)).toNatClampNeg) := inb_of S_b1 ⟨by decide, by decide⟩
  obtain ⟨T57, h57, X57, e57, W57, st57⟩ := stR X56 hx hZ e56 Ar_b1 (j := (18 : Int32)) hin131 rfl (Sto.ofV Ar_b1 q_b1 O1 (Ins.self ((EX 18 (by decide)).ext O54o.2))) (g := (mkF m 131 #[.val (.int p1), .val (.int p2), .unset, .unset, .unset, .unset, .unset] [(.ref (tt 18)), (.int (18 : Int32)), (.ref b1), (.ref b1)])) rfl rfl (hb hby at_131)
  have Z57 : n0 ≤ h57.size := Nat.le_trans Z54 (Keep.of_wr W57).1
  have N57 := Fr.snoc X57 N54a g_b1
  have O57o := O54o.wr W57 g_b1
  have V_b1 : Arv Z h57 b1 k1 (.object "com/example/kennet/kennet/xdm/AtomicType") (25 : Int32) [(.ref (tt 0)), (.ref (tt 1)), (.ref (tt 2)), (.ref (tt 3)), (.ref (tt 4)), (.ref (tt 5)), (.ref (tt 6)), (.ref (tt 7)), (.ref (tt 8)), (.ref (tt 9)), (.ref (tt 10)), (.ref (tt 11)), (.ref (tt 12)), (.ref (tt 13)), (.ref (tt 14)), (.ref (tt 15)), (.ref (tt 16)), (.ref (tt 17)), (.ref (tt 18)), .null, .null, .null, .null, .null, .null] .null := Arv.set Ar_b1 q_b1 S_b1 N_b1 H_b1 G_b1 rfl W57 18 rfl (Nat.le_of_ble_eq_true rfl)
  obtain ⟨L57a, X57a, N57a⟩ : ∃ L, Stand p l e room_1 s m #[(.int p1), (.int p2)] below meth c T57 L 1 25 ∧ Fr n0 L := ⟨_, X57, N57⟩
  have pre58 : ∀ t, Steps p.tables e below (T57.setTop (mkF m 132 #[.val (.int p1), .val (.int p2), .unset, .unset, .unset, .unset, .unset] [(.ref b1)])) t → Steps p.tables e below (s₁.setTop (entryFrame m #[(.int p1), (.int p2)] maxLocals)) t := by
    intro t k
    refine pre55 _ ?_
    show Steps p.tables e below (T54.setTop (mkF m 125 #[.val (.int p1), .val (.int p2), .unset, .unset, .unset, .unset, .unset] [(.ref b1)])) _
    refine XS.dup X54a.here hx rfl (hb hby at_125) rfl rfl ?_
    show Steps p.tables e below (T54.setTop (mkF m 126 #[.val (.int p1), .val (.int p2), .unset, .unset, .unset, .unset, .unset] [(.ref b1), (.ref b1)])) _
    refine XS.bipush X54a.here hx rfl (hb hby at_126) ?_
    show Steps p.tables e below (T54.setTop (mkF m 128 #[.val (.int p1), .val (.int p2), .unset, .unset, .unset, .unset, .unset] [(.int (18 : Int32)), (.ref b1), (.ref b1)])) _
    refine st56 _ ?_
    show Steps p.tables e below (T56.setTop (mkF m 131 #[.val (.int p1), .val (.int p2), .unset, .unset, .unset, .unset, .unset] [(.ref (tt 18)), (.int (18 : Int32)), (.ref b1), (.ref b1)])) _
    refine st57 _ ?_
    exact k
  clear X54a e54 st56 X56 e56 st57 Z54 N54a O54o N57 X57 W57 Ar_b1 q_b1 S_b1 N_b1 H_b1 G_b1 hin131 cl_b1 pre55
  obtain ⟨T59, X59, e59, st59⟩ := getS2 X57a hx hZ hown (host := "") (Or.inl (hw _ (List.mem_of_getElem? (i := 42) rfl))) Via.refl e57 (BS_UNTYPED_ATOMIC.ext O57o.2) (g := (mkF m 135 #[.val (.int p1), .val (.int p2), .unset, .unset, .unset, .unset, .unset] [(.int (19 : Int32)), (.ref b1), (.ref b1)])) rfl (hb hby at_135)
  obtain ⟨cl_b1, Ar_b1, q_b1, S_b1, N_b1, H_b1, G_b1⟩ := V_b1
  have hin138 : ¬ ((19 : Int32) < 0 ∨ cl_b1.slots.size ≤ ((19 : Int32)).toNatClampNeg) := inb_of S_b1 ⟨by decide, by decide⟩
  obtain ⟨T60, h60, X60, e60, W60, st60⟩ := stR X59 hx hZ e59 Ar_b1 (j := (19 : Int32)) hin138 rfl (Sto.ofV Ar_b1 q_b1 O1 (Ins.self ((EX 19 (by decide)).ext O57o.2))) (g := (mkF m 138 #[.val (.int p1), .val (.int p2), .unset, .unset, .unset, .unset, .unset] [(.ref (tt 19)), (.int (19 : Int32)), (.ref b1), (.ref b1)])) rfl rfl (hb hby at_138)
  have Z60 : n0 ≤ h60.size := Nat.le_trans Z57 (Keep.of_wr W60).1
  have N60 := Fr.snoc X60 N57a g_b1
  have O60o := O57o.wr W60 g_b1
  have V_b1 : Arv Z h60 b1 k1 (.object "com/example/kennet/kennet/xdm/AtomicType") (25 : Int32) [(.ref (tt 0)), (.ref (tt 1)), (.ref (tt 2)), (.ref (tt 3)), (.ref (tt 4)), (.ref (tt 5)), (.ref (tt 6)), (.ref (tt 7)), (.ref (tt 8)), (.ref (tt 9)), (.ref (tt 10)), (.ref (tt 11)), (.ref (tt 12)), (.ref (tt 13)), (.ref (tt 14)), (.ref (tt 15)), (.ref (tt 16)), (.ref (tt 17)), (.ref (tt 18)), (.ref (tt 19)), .null, .null, .null, .null, .null] .null := Arv.set Ar_b1 q_b1 S_b1 N_b1 H_b1 G_b1 rfl W60 19 rfl (Nat.le_of_ble_eq_true rfl)
  obtain ⟨L60a, X60a, N60a⟩ : ∃ L, Stand p l e room_1 s m #[(.int p1), (.int p2)] below meth c T60 L 1 25 ∧ Fr n0 L := ⟨_, X60, N60⟩
  have pre61 : ∀ t, Steps p.tables e below (T60.setTop (mkF m 139 #[.val (.int p1), .val (.int p2), .unset, .unset, .unset, .unset, .unset] [(.ref b1)])) t → Steps p.tables e below (s₁.setTop (entryFrame m #[(.int p1), (.int p2)] maxLocals)) t := by
    intro t k
    refine pre58 _ ?_
    show Steps p.tables e below (T57.setTop (mkF m 132 #[.val (.int p1), .val (.int p2), .unset, .unset, .unset, .unset, .unset] [(.ref b1)])) _
    refine XS.dup X57a.here hx rfl (hb hby at_132) rfl rfl ?_
    show Steps p.tables e below (T57.setTop (mkF m 133 #[.val (.int p1), .val (.int p2), .unset, .unset, .unset, .unset, .unset] [(.ref b1), (.ref b1)])) _
    refine XS.bipush X57a.here hx rfl (hb hby at_133) ?_
    show Steps p.tables e below (T57.setTop (mkF m 135 #[.val (.int p1), .val (.int p2), .unset, .unset, .unset, .unset, .unset] [(.int (19 : Int32)), (.ref b1), (.ref b1)])) _
    refine st59 _ ?_
    show Steps p.tables e below (T59.setTop (mkF m 138 #[.val (.int p1), .val (.int p2), .unset, .unset, .unset, .unset, .unset] [(.ref (tt 19)), (.int (19 : Int32)), (.ref b1), (.ref b1)])) _
    refine st60 _ ?_
    exact k
  clear X57a e57 st59 X59 e59 st60 Z57 N57a O57o N60 X60 W60 Ar_b1 q_b1 S_b1 N_b1 H_b1 G_b1 hin138 cl_b1 pre58
  obtain ⟨T62, X62, e62, st62⟩ := getS2 X60a hx hZ hown (host := "") (Or.inl (hw _ (List.mem_of_getElem? (i := 44) rfl))) Via.refl e60 (BS_ANY_URI.ext O60o.2) (g := (mkF m 142 #[.val (.int p1), .val (.int p2), .unset, .unset, .unset, .unset, .unset] [(.int (20 : Int32)), (.ref b1), (.ref b1)])) rfl (hb hby at_142)
  obtain ⟨cl_b1, Ar_b1, q_b1, S_b1, N_b1, H_b1, G_b1⟩ := V_b1
  have hin145 : ¬ ((20 : Int32) < 0 ∨ cl_b1.slots.size ≤ ((20 : Int32)).toNatClampNeg) := inb_of S_b1 ⟨by decide, by decide⟩
  obtain ⟨T63, h63, X63, e63, W63, st63⟩ := stR X62 hx hZ e62 Ar_b1 (j := (20 : Int32)) hin145 rfl (Sto.ofV Ar_b1 q_b1 O1 (Ins.self ((EX 20 (by decide)).ext O60o.2))) (g := (mkF m 145 #[.val (.int p1), .val (.int p2), .unset, .unset, .unset, .unset, .unset] [(.ref (tt 20)), (.int (20 : Int32)), (.ref b1), (.ref b1)])) rfl rfl (hb hby at_145)
  have Z63 : n0 ≤ h63.size := Nat.le_trans Z60 (Keep.of_wr W63).1
  have N63 := Fr.snoc X63 N60a g_b1
  have O63o := O60o.wr W63 g_b1
  have V_b1 : Arv Z h63 b1 k1 (.object "com/example/kennet/kennet/xdm/AtomicType") (25 : Int32) [(.ref (tt 0)), (.ref (tt 1)), (.ref (tt 2)), (.ref (tt 3)), (.ref (tt 4)), (.ref (tt 5)), (.ref (tt 6)), (.ref (tt 7)), (.ref (tt 8)), (.ref (tt 9)), (.ref (tt 10)), (.ref (tt 11)), (.ref (tt 12)), (.ref (tt 13)), (.ref (tt 14)), (.ref (tt 15)), (.ref (tt 16)), (.ref (tt 17)), (.ref (tt 18)), (.ref (tt 19)), (.ref (tt 20)), .null, .null, .null, .null] .null := Arv.set Ar_b1 q_b1 S_b1 N_b1 H_b1 G_b1 rfl W63 20 rfl (Nat.le_of_ble_eq_true rfl)
  obtain ⟨L63a, X63a, N63a⟩ : ∃ L, Stand p l e room_1 s m #[(.int p1), (.int p2)] below meth c T63 L 1 25 ∧ Fr n0 L := ⟨_, X63, N63⟩
  have pre64 : ∀ t, Steps p.tables e below (T63.setTop (mkF m 146 #[.val (.int p1), .val (.int p2), .unset, .unset, .unset, .unset, .unset] [(.ref b1)])) t → Steps p.tables e below (s₁.setTop (entryFrame m #[(.int p1), (.int p2)] maxLocals)) t := by
    intro t k
    refine pre61 _ ?_
    show Steps p.tables e below (T60.setTop (mkF m 139 #[.val (.int p1), .val (.int p2), .unset, .unset, .unset, .unset, .unset] [(.ref b1)])) _
    refine XS.dup X60a.here hx rfl (hb hby at_139) rfl rfl ?_
    show Steps p.tables e below (T60.setTop (mkF m 140 #[.val (.int p1), .val (.int p2), .unset, .unset, .unset, .unset, .unset] [(.ref b1), (.ref b1)])) _
    refine XS.bipush X60a.here hx rfl (hb hby at_140) ?_
    show Steps p.tables e below (T60.setTop (mkF m 142 #[.val (.int p1), .val (.int p2), .unset, .unset, .unset, .unset, .unset] [(.int (20 : Int32)), (.ref b1), (.ref b1)])) _
    refine st62 _ ?_
    show Steps p.tables e below (T62.setTop (mkF m 145 #[.val (.int p1), .val (.int p2), .unset, .unset, .unset, .unset, .unset] [(.ref (tt 20)), (.int (20 : Int32)), (.ref b1), (.ref b1)])) _
    refine st63 _ ?_
    exact k
  clear X60a e60 st62 X62 e62 st63 Z60 N60a O60o N63 X63 W63 Ar_b1 q_b1 S_b1 N_b1 H_b1 G_b1 hin145 cl_b1 pre61
  obtain ⟨T65, X65, e65, st65⟩ := getS2 X63a hx hZ hown (host := "") (Or.inl (hw _ (List.mem_of_getElem? (i := 46) rfl))) Via.refl e63 (BS_QNAME.ext O63o.2) (g := (mkF m 149 #[.val (.int p1), .val (.int p2), .unset, .unset, .unset, .unset, .unset] [(.int (21 : Int32)), (.ref b1), (.ref b1)])) rfl (hb hby at_149)
  obtain ⟨cl_b1, Ar_b1, q_b1, S_b1, N_b1, H_b1, G_b1⟩ := V_b1
  have hin152 : ¬ ((21 : Int32) < 0 ∨ cl_b1.slots.size ≤ ((21 : Int32)).toNatClampNeg) := inb_of S_b1 ⟨by decide, by decide⟩
  obtain ⟨T66, h66, X66, e66, W66, st66⟩ := stR X65 hx hZ e65 Ar_b1 (j := (21 : Int32)) hin152 rfl (Sto.ofV Ar_b1 q_b1 O1 (Ins.self ((EX 21 (by decide)).ext O63o.2))) (g := (mkF m 152 #[.val (.int p1), .val (.int p2), .unset, .unset, .unset, .unset, .unset] [(.ref (tt 21)), (.int (21 : Int32)), (.ref b1), (.ref b1)])) rfl rfl (hb hby at_152)
  have Z66 : n0 ≤ h66.size := Nat.le_trans Z63 (Keep.of_wr W66).1
  have N66 := Fr.snoc X66 N63a g_b1
  have O66o := O63o.wr W66 g_b1
  have V_b1 : Arv Z h66 b1 k1 (.object "com/example/kennet/kennet/xdm/AtomicType") (25 : Int32) [(.ref (tt 0)), (.ref (tt 1)), (.ref (tt 2)), (.ref (tt 3)), (.ref (tt 4)), (.ref (tt 5)), (.ref (tt 6)), (.ref (tt 7)), (.ref (tt 8)), (.ref (tt 9)), (.ref (tt 10)), (.ref (tt 11)), (.ref (tt 12)), (.ref (tt 13)), (.ref (tt 14)), (.ref (tt 15)), (.ref (tt 16)), (.ref (tt 17)), (.ref (tt 18)), (.ref (tt 19)), (.ref (tt 20)), (.ref (tt 21)), .null, .null, .null] .null := Arv.set Ar_b1 q_b1 S_b1 N_b1 H_b1 G_b1 rfl W66 21 rfl (Nat.le_of_ble_eq_true rfl)
  obtain ⟨L66a, X66a, N66a⟩ : ∃ L, Stand p l e room_1 s m #[(.int p1), (.int p2)] below meth c T66 L 1 25 ∧ Fr n0 L := ⟨_, X66, N66⟩
  have pre67 : ∀ t, Steps p.tables e below (T66.setTop (mkF m 153 #[.val (.int p1), .val (.int p2), .unset, .unset, .unset, .unset, .unset] [(.ref b1)])) t → Steps p.tables e below (s₁.setTop (entryFrame m #[(.int p1), (.int p2)] maxLocals)) t := by
    intro t k
    refine pre64 _ ?_
    show Steps p.tables e below (T63.setTop (mkF m 146 #[.val (.int p1), .val (.int p2), .unset, .unset, .unset, .unset, .unset] [(.ref b1)])) _
    refine XS.dup X63a.here hx rfl (hb hby at_146) rfl rfl ?_
    show Steps p.tables e below (T63.setTop (mkF m 147 #[.val (.int p1), .val (.int p2), .unset, .unset, .unset, .unset, .unset] [(.ref b1), (.ref b1)])) _
    refine XS.bipush X63a.here hx rfl (hb hby at_147) ?_
    show Steps p.tables e below (T63.setTop (mkF m 149 #[.val (.int p1), .val (.int p2), .unset, .unset, .unset, .unset, .unset] [(.int (21 : Int32)), (.ref b1), (.ref b1)])) _
    refine st65 _ ?_
    show Steps p.tables e below (T65.setTop (mkF m 152 #[.val (.int p1), .val (.int p2), .unset, .unset, .unset, .unset, .unset] [(.ref (tt 21)), (.int (21 : Int32)), (.ref b1), (.ref b1)])) _
    refine st66 _ ?_
    exact k
  clear X63a e63 st65 X65 e65 st66 Z63 N63a O63o N66 X66 W66 Ar_b1 q_b1 S_b1 N_b1 H_b1 G_b1 hin152 cl_b1 pre64
  obtain ⟨T68, X68, e68, st68⟩ := getS2 X66a hx hZ hown (host := "") (Or.inl (hw _ (List.mem_of_getElem? (i := 48) rfl))) Via.refl e66 (BS_HEX_BINARY.ext O66o.2) (g := (mkF m 156 #[.val (.int p1), .val (.int p2), .unset, .unset, .unset, .unset, .unset] [(.int (22 : Int32)), (.ref b1), (.ref b1)])) rfl (hb hby at_156)
  obtain ⟨cl_b1, Ar_b1, q_b1, S_b1, N_b1, H_b1, G_b1⟩ := V_b1
  have hin159 : ¬ ((22 : Int32) < 0 ∨ cl_b1.slots.size ≤ ((22 : Int32)).toNatClampNeg) := inb_of S_b1 ⟨by decide, by decide⟩
  obtain ⟨T69, h69, X69, e69, W69, st69⟩ := stR X68 hx hZ e68 Ar_b1 (j := (22 : Int32)) hin159 rfl (Sto.ofV Ar_b1 q_b1 O1 (Ins.self ((EX 22 (by decide)).ext O66o.2))) (g := (mkF m 159 #[.val (.int p1), .val (.int p2), .unset, .unset, .unset, .unset, .unset] [(.ref (tt 22)), (.int (22 : Int32)), (.ref b1), (.ref b1)])) rfl rfl (hb hby at_159)
  have Z69 : n0 ≤ h69.size := Nat.le_trans Z66 (Keep.of_wr W69).1
  have N69 := Fr.snoc X69 N66a g_b1
  have O69o := O66o.wr W69 g_b1
  have V_b1 : Arv Z h69 b1 k1 (.object "com/example/kennet/kennet/xdm/AtomicType") (25 : Int32) [(.ref (tt 0)), (.ref (tt 1)), (.ref (tt 2)), (.ref (tt 3)), (.ref (tt 4)), (.ref (tt 5)), (.ref (tt 6)), (.ref (tt 7)), (.ref (tt 8)), (.ref (tt 9)), (.ref (tt 10)), (.ref (tt 11)), (.ref (tt 12)), (.ref (tt 13)), (.ref (tt 14)), (.ref (tt 15)), (.ref (tt 16)), (.ref (tt 17)), (.ref (tt 18)), (.ref (tt 19)), (.ref (tt 20)), (.ref (tt 21)), (.ref (tt 22)), .null, .null] .null := Arv.set Ar_b1 q_b1 S_b1 N_b1 H_b1 G_b1 rfl W69 22 rfl (Nat.le_of_ble_eq_true rfl)
  obtain ⟨L69a, X69a, N69a⟩ : ∃ L, Stand p l e room_1 s m #[(.int p1), (.int p2)] below meth c T69 L 1 25 ∧ Fr n0 L := ⟨_, X69, N69⟩
  have pre70 : ∀ t, Steps p.tables e below (T69.setTop (mkF m 160 #[.val (.int p1), .val (.int p2), .unset, .unset, .unset, .unset, .unset] [(.ref b1)])) t → Steps p.tables e below (s₁.setTop (entryFrame m #[(.int p1), (.int p2)] maxLocals)) t := by
    intro t k
    refine pre67 _ ?_
    show Steps p.tables e below (T66.setTop (mkF m 153 #[.val (.int p1), .val (.int p2), .unset, .unset, .unset, .unset, .unset] [(.ref b1)])) _
    refine XS.dup X66a.here hx rfl (hb hby at_153) rfl rfl ?_
    show Steps p.tables e below (T66.setTop (mkF m 154 #[.val (.int p1), .val (.int p2), .unset, .unset, .unset, .unset, .unset] [(.ref b1), (.ref b1)])) _
    refine XS.bipush X66a.here hx rfl (hb hby at_154) ?_
    show Steps p.tables e below (T66.setTop (mkF m 156 #[.val (.int p1), .val (.int p2), .unset, .unset, .unset, .unset, .unset] [(.int (22 : Int32)), (.ref b1), (.ref b1)])) _
    refine st68 _ ?_
    show Steps p.tables e below (T68.setTop (mkF m 159 #[.val (.int p1), .val (.int p2), .unset, .unset, .unset, .unset, .unset] [(.ref (tt 22)), (.int (22 : Int32)), (.ref b1), (.ref b1)])) _
    refine st69 _ ?_
    exact k
  clear X66a e66 st68 X68 e68 st69 Z66 N66a O66o N69 X69 W69 Ar_b1 q_b1 S_b1 N_b1 H_b1 G_b1 hin159 cl_b1 pre67
  obtain ⟨T71, X71, e71, st71⟩ := getS2 X69a hx hZ hown (host := "") (Or.inl (hw _ (List.mem_of_getElem? (i := 50) rfl))) Via.refl e69 (BS_BASE64_BINARY.ext O69o.2) (g := (mkF m 163 #[.val (.int p1), .val (.int p2), .unset, .unset, .unset, .unset, .unset] [(.int (23 : Int32)), (.ref b1), (.ref b1)])) rfl (hb hby at_163)
  obtain ⟨cl_b1, Ar_b1, q_b1, S_b1, N_b1, H_b1, G_b1⟩ := V_b1
  have hin166 : ¬ ((23 : Int32) < 0 ∨ cl_b1.slots.size ≤ ((23 : Int32)).toNatClampNeg) := inb_of S_b1 ⟨by decide, by decide⟩
  obtain ⟨T72, h72, X72, e72, W72, st72⟩ := stR X71 hx hZ e71 Ar_b1 (j := (23 : Int32)) hin166 rfl (Sto.ofV Ar_b1 q_b1 O1 (Ins.self ((EX 23 (by decide)).ext O69o.2))) (g := (mkF m 166 #[.val (.int p1), .val (.int p2), .unset, .unset, .unset, .unset, .unset] [(.ref (tt 23)), (.int (23 : Int32)), (.ref b1), (.ref b1)])) rfl rfl (hb hby at_166)
  have Z72 : n0 ≤ h72.size := Nat.le_trans Z69 (Keep.of_wr W72).1
  have N72 := Fr.snoc X72 N69a g_b1
  have O72o := O69o.wr W72 g_b1
  have V_b1 : Arv Z h72 b1 k1 (.object "com/example/kennet/kennet/xdm/AtomicType") (25 : Int32) [(.ref (tt 0)), (.ref (tt 1)), (.ref (tt 2)), (.ref (tt 3)), (.ref (tt 4)), (.ref (tt 5)), (.ref (tt 6)), (.ref (tt 7)), (.ref (tt 8)), (.ref (tt 9)), (.ref (tt 10)), (.ref (tt 11)), (.ref (tt 12)), (.ref (tt 13)), (.ref (tt 14)), (.ref (tt 15)), (.ref (tt 16)), (.ref (tt 17)), (.ref (tt 18)), (.ref (tt 19)), (.ref (tt 20)), (.ref (tt 21)), (.ref (tt 22)), (.ref (tt 23)), .null] .null := Arv.set Ar_b1 q_b1 S_b1 N_b1 H_b1 G_b1 rfl W72 23 rfl (Nat.le_of_ble_eq_true rfl)
  obtain ⟨L72a, X72a, N72a⟩ : ∃ L, Stand p l e room_1 s m #[(.int p1), (.int p2)] below meth c T72 L 1 25 ∧ Fr n0 L := ⟨_, X72, N72⟩
  have pre73 : ∀ t, Steps p.tables e below (T72.setTop (mkF m 167 #[.val (.int p1), .val (.int p2), .unset, .unset, .unset, .unset, .unset] [(.ref b1)])) t → Steps p.tables e below (s₁.setTop (entryFrame m #[(.int p1), (.int p2)] maxLocals)) t := by
    intro t k
    refine pre70 _ ?_
    show Steps p.tables e below (T69.setTop (mkF m 160 #[.val (.int p1), .val (.int p2), .unset, .unset, .unset, .unset, .unset] [(.ref b1)])) _
    refine XS.dup X69a.here hx rfl (hb hby at_160) rfl rfl ?_
    show Steps p.tables e below (T69.setTop (mkF m 161 #[.val (.int p1), .val (.int p2), .unset, .unset, .unset, .unset, .unset] [(.ref b1), (.ref b1)])) _
    refine XS.bipush X69a.here hx rfl (hb hby at_161) ?_
    show Steps p.tables e below (T69.setTop (mkF m 163 #[.val (.int p1), .val (.int p2), .unset, .unset, .unset, .unset, .unset] [(.int (23 : Int32)), (.ref b1), (.ref b1)])) _
    refine st71 _ ?_
    show Steps p.tables e below (T71.setTop (mkF m 166 #[.val (.int p1), .val (.int p2), .unset, .unset, .unset, .unset, .unset] [(.ref (tt 23)), (.int (23 : Int32)), (.ref b1), (.ref b1)])) _
    refine st72 _ ?_
    exact k
  clear X69a e69 st71 X71 e71 st72 Z69 N69a O69o N72 X72 W72 Ar_b1 q_b1 S_b1 N_b1 H_b1 G_b1 hin166 cl_b1 pre70
  obtain ⟨T74, X74, e74, st74⟩ := getS2 X72a hx hZ hown (host := "") (Or.inl (hw _ (List.mem_of_getElem? (i := 52) rfl))) Via.refl e72 (BS_DATE.ext O72o.2) (g := (mkF m 170 #[.val (.int p1), .val (.int p2), .unset, .unset, .unset, .unset, .unset] [(.int (24 : Int32)), (.ref b1), (.ref b1)])) rfl (hb hby at_170)
  obtain ⟨cl_b1, Ar_b1, q_b1, S_b1, N_b1, H_b1, G_b1⟩ := V_b1
  have hin173 : ¬ ((24 : Int32) < 0 ∨ cl_b1.slots.size ≤ ((24 : Int32)).toNatClampNeg) := inb_of S_b1 ⟨by decide, by decide⟩
  obtain ⟨T75, h75, X75, e75, W75, st75⟩ := stR X74 hx hZ e74 Ar_b1 (j := (24 : Int32)) hin173 rfl (Sto.ofV Ar_b1 q_b1 O1 (Ins.self ((EX 24 (by decide)).ext O72o.2))) (g := (mkF m 173 #[.val (.int p1), .val (.int p2), .unset, .unset, .unset, .unset, .unset] [(.ref (tt 24)), (.int (24 : Int32)), (.ref b1), (.ref b1)])) rfl rfl (hb hby at_173)
  have Z75 : n0 ≤ h75.size := Nat.le_trans Z72 (Keep.of_wr W75).1
  have N75 := Fr.snoc X75 N72a g_b1
  have O75o := O72o.wr W75 g_b1
  have V_b1 : Arv Z h75 b1 k1 (.object "com/example/kennet/kennet/xdm/AtomicType") (25 : Int32) [(.ref (tt 0)), (.ref (tt 1)), (.ref (tt 2)), (.ref (tt 3)), (.ref (tt 4)), (.ref (tt 5)), (.ref (tt 6)), (.ref (tt 7)), (.ref (tt 8)), (.ref (tt 9)), (.ref (tt 10)), (.ref (tt 11)), (.ref (tt 12)), (.ref (tt 13)), (.ref (tt 14)), (.ref (tt 15)), (.ref (tt 16)), (.ref (tt 17)), (.ref (tt 18)), (.ref (tt 19)), (.ref (tt 20)), (.ref (tt 21)), (.ref (tt 22)), (.ref (tt 23)), (.ref (tt 24))] .null := Arv.set Ar_b1 q_b1 S_b1 N_b1 H_b1 G_b1 rfl W75 24 rfl (Nat.le_of_ble_eq_true rfl)
  obtain ⟨L75a, X75a, N75a⟩ : ∃ L, Stand p l e room_1 s m #[(.int p1), (.int p2)] below meth c T75 L 1 25 ∧ Fr n0 L := ⟨_, X75, N75⟩
  have pre76 : ∀ t, Steps p.tables e below (T75.setTop (mkF m 174 #[.val (.int p1), .val (.int p2), .unset, .unset, .unset, .unset, .unset] [(.ref b1)])) t → Steps p.tables e below (s₁.setTop (entryFrame m #[(.int p1), (.int p2)] maxLocals)) t := by
    intro t k
    refine pre73 _ ?_
    show Steps p.tables e below (T72.setTop (mkF m 167 #[.val (.int p1), .val (.int p2), .unset, .unset, .unset, .unset, .unset] [(.ref b1)])) _
    refine XS.dup X72a.here hx rfl (hb hby at_167) rfl rfl ?_
    show Steps p.tables e below (T72.setTop (mkF m 168 #[.val (.int p1), .val (.int p2), .unset, .unset, .unset, .unset, .unset] [(.ref b1), (.ref b1)])) _
    refine XS.bipush X72a.here hx rfl (hb hby at_168) ?_
    show Steps p.tables e below (T72.setTop (mkF m 170 #[.val (.int p1), .val (.int p2), .unset, .unset, .unset, .unset, .unset] [(.int (24 : Int32)), (.ref b1), (.ref b1)])) _
    refine st74 _ ?_
    show Steps p.tables e below (T74.setTop (mkF m 173 #[.val (.int p1), .val (.int p2), .unset, .unset, .unset, .unset, .unset] [(.ref (tt 24)), (.int (24 : Int32)), (.ref b1), (.ref b1)])) _
    refine st75 _ ?_
    exact k
  clear X72a e72 st74 X74 e74 st75 Z72 N72a O72o N75 X75 W75 Ar_b1 q_b1 S_b1 N_b1 H_b1 G_b1 hin173 cl_b1 pre73
  obtain ⟨T77, h77, k77, X77, e77, E77, A77, st77⟩ := newP X75a hx hZ (hw _ (List.mem_of_getElem? (i := 54) rfl)) e75 (g := (mkF m 177 #[.val (.int p1), .val (.int p2), .val (.ref b1), .unset, .unset, .unset, .unset] [(.int (25 : Int32))])) rfl (hb hby at_177) rfl (by decide) (cap := 25) (by decide) (by decide) (by decide) (by decide)
  obtain ⟨b77, g77⟩ : ∃ z, z = h75.size := ⟨_, rfl⟩
  rw [← g77] at A77 st77
  have ne_b1_b77 : b1 ≠ b77 := Nat.ne_of_lt (Nat.lt_of_lt_of_le V_b1.lt (Nat.le_of_eq g77.symm))
  have g_b77 : n0 ≤ b77 := Nat.le_trans Z75 (Nat.le_of_eq g77.symm)
  replace V_b1 := V_b1.ext E77
  have Z77 : n0 ≤ h77.size := Nat.le_trans Z75 E77.1
  have O77o := O75o.ext E77
  have V_b77 : Arv Z h77 b77 k77 .int (25 : Int32) [(.int (0 : Int32)), (.int (0 : Int32)), (.int (0 : Int32)), (.int (0 : Int32)), (.int (0 : Int32)), (.int (0 : Int32)), (.int (0 : Int32)), (.int (0 : Int32)), (.int (0 : Int32)), (.int (0 : Int32)), (.int (0 : Int32)), (.int (0 : Int32)), (.int (0 : Int32)), (.int (0 : Int32)), (.int (0 : Int32)), (.int (0 : Int32)), (.int (0 : Int32)), (.int (0 : Int32)), (.int (0 : Int32)), (.int (0 : Int32)), (.int (0 : Int32)), (.int (0 : Int32)), (.int (0 : Int32)), (.int (0 : Int32)), (.int (0 : Int32))] (.int (0 : Int32)) := (Arv.new A77 (by decide)).pad (pad_rep [] (.int (0 : Int32)) 25)
  obtain ⟨cl_b77, Ar_b77, q_b77, S_b77, N_b77, H_b77, G_b77⟩ := V_b77
  have hin182 : ¬ ((0 : Int32) < 0 ∨ cl_b77.slots.size ≤ ((0 : Int32)).toNatClampNeg) := inb_of S_b77 ⟨by decide, by decide⟩
  obtain ⟨T78, h78, X78, e78, W78, st78⟩ := stI X77 hx hZ e77 Ar_b77 (j := (0 : Int32)) hin182 (g := (mkF m 182 #[.val (.int p1), .val (.int p2), .val (.ref b1), .unset, .unset, .unset, .unset] [(.int (1 : Int32)), (.int (0 : Int32)), (.ref b77), (.ref b77)])) rfl rfl (hb hby at_182)
  replace V_b1 := V_b1.other W78 ne_b1_b77
  have Z78 : n0 ≤ h78.size := Nat.le_trans Z77 (Keep.of_wr W78).1
  have N78 := Fr.snoc X78 N75a g_b77
  have O78o := O77o.wr W78 g_b77
  have V_b77 : Arv Z h78 b77 k77 .int (25 : Int32) [(.int (1 : Int32)), (.int (0 : Int32)), (.int (0 : Int32)), (.int (0 : Int32)), (.int (0 : Int32)), (.int (0 : Int32)), (.int (0 : Int32)), (.int (0 : Int32)), (.int (0 : Int32)), (.int (0 : Int32)), (.int (0 : Int32)), (.int (0 : Int32)), (.int (0 : Int32)), (.int (0 : Int32)), (.int (0 : Int32)), (.int (0 : Int32)), (.int (0 : Int32)), (.int (0 : Int32)), (.int (0 : Int32)), (.int (0 : Int32)), (.int (0 : Int32)), (.int (0 : Int32)), (.int (0 : Int32)), (.int (0 : Int32)), (.int (0 : Int32))] (.int (0 : Int32)) := Arv.set Ar_b77 q_b77 S_b77 N_b77 H_b77 G_b77 rfl W78 0 rfl (Nat.le_of_ble_eq_true rfl)
  obtain ⟨L78a, X78a, N78a⟩ : ∃ L, Stand p l e room_1 s m #[(.int p1), (.int p2)] below meth c T78 L 2 50 ∧ Fr n0 L := ⟨_, X78, N78⟩
  have pre79 : ∀ t, Steps p.tables e below (T78.setTop (mkF m 183 #[.val (.int p1), .val (.int p2), .val (.ref b1), .unset, .unset, .unset, .unset] [(.ref b77)])) t → Steps p.tables e below (s₁.setTop (entryFrame m #[(.int p1), (.int p2)] maxLocals)) t := by
    intro t k
    refine pre76 _ ?_
    show Steps p.tables e below (T75.setTop (mkF m 174 #[.val (.int p1), .val (.int p2), .unset, .unset, .unset, .unset, .unset] [(.ref b1)])) _
    refine XS.astoreN X75a.here hx rfl (hb hby at_174) rfl rfl (l' := #[.val (.int p1), .val (.int p2), .val (.ref b1), .unset, .unset, .unset, .unset]) rfl ?_
    show Steps p.tables e below (T75.setTop (mkF m 175 #[.val (.int p1), .val (.int p2), .val (.ref b1), .unset, .unset, .unset, .unset] [])) _
    refine XS.bipush X75a.here hx rfl (hb hby at_175) ?_
    show Steps p.tables e below (T75.setTop (mkF m 177 #[.val (.int p1), .val (.int p2), .val (.ref b1), .unset, .unset, .unset, .unset] [(.int (25 : Int32))])) _
    refine st77 _ ?_
    show Steps p.tables e below (T77.setTop (mkF m 179 #[.val (.int p1), .val (.int p2), .val (.ref b1), .unset, .unset, .unset, .unset] [(.ref b77)])) _
    refine XS.dup X77.here hx rfl (hb hby at_179) rfl rfl ?_
    show Steps p.tables e below (T77.setTop (mkF m 180 #[.val (.int p1), .val (.int p2), .val (.ref b1), .unset, .unset, .unset, .unset] [(.ref b77), (.ref b77)])) _
    refine XS.iconst X77.here hx rfl (hb hby at_180) ?_
    show Steps p.tables e below (T77.setTop (mkF m 181 #[.val (.int p1), .val (.int p2), .val (.ref b1), .unset, .unset, .unset, .unset] [(.int (0 : Int32)), (.ref b77), (.ref b77)])) _
    refine XS.iconst X77.here hx rfl (hb hby at_181) ?_
    show Steps p.tables e below (T77.setTop (mkF m 182 #[.val (.int p1), .val (.int p2), .val (.ref b1), .unset, .unset, .unset, .unset] [(.int (1 : Int32)), (.int (0 : Int32)), (.ref b77), (.ref b77)])) _
    refine st78 _ ?_
    exact k
  clear X75a e75 st77 X77 e77 st78 Z77 N75a O77o N78 X78 W78 Ar_b77 q_b77 S_b77 N_b77 H_b77 G_b77 hin182 cl_b77 pre76
  obtain ⟨cl_b77, Ar_b77, q_b77, S_b77, N_b77, H_b77, G_b77⟩ := V_b77
  have hin186 : ¬ ((1 : Int32) < 0 ∨ cl_b77.slots.size ≤ ((1 : Int32)).toNatClampNeg) := inb_of S_b77 ⟨by decide, by decide⟩
  obtain ⟨T80, h80, X80, e80, W80, st80⟩ := stI X78a hx hZ e78 Ar_b77 (j := (1 : Int32)) hin186 (g := (mkF m 186 #[.val (.int p1), .val (.int p2), .val (.ref b1), .unset, .unset, .unset, .unset] [(.int (3 : Int32)), (.int (1 : Int32)), (.ref b77), (.ref b77)])) rfl rfl (hb hby at_186)
  replace V_b1 := V_b1.other W80 ne_b1_b77
  have Z80 : n0 ≤ h80.size := Nat.le_trans Z78 (Keep.of_wr W80).1
  have N80 := Fr.snoc X80 N78a g_b77
  have O80o := O78o.wr W80 g_b77
  have V_b77 : Arv Z h80 b77 k77 .int (25 : Int32) [(.int (1 : Int32)), (.int (3 : Int32)), (.int (0 : Int32)), (.int (0 : Int32)), (.int (0 : Int32)), (.int (0 : Int32)), (.int (0 : Int32)), (.int (0 : Int32)), (.int (0 : Int32)), (.int (0 : Int32)), (.int (0 : Int32)), (.int (0 : Int32)), (.int (0 : Int32)), (.int (0 : Int32)), (.int (0 : Int32)), (.int (0 : Int32)), (.int (0 : Int32)), (.int (0 : Int32)), (.int (0 : Int32)), (.int (0 : Int32)), (.int (0 : Int32)), (.int (0 : Int32)), (.int (0 : Int32)), (.int (0 : Int32)), (.int (0 : Int32))] (.int (0 : Int32)) := Arv.set Ar_b77 q_b77 S_b77 N_b77 H_b77 G_b77 rfl W80 1 rfl (Nat.le_of_ble_eq_true rfl)
  obtain ⟨L80a, X80a, N80a⟩ : ∃ L, Stand p l e room_1 s m #[(.int p1), (.int p2)] below meth c T80 L 2 50 ∧ Fr n0 L := ⟨_, X80, N80⟩
  have pre81 : ∀ t, Steps p.tables e below (T80.setTop (mkF m 187 #[.val (.int p1), .val (.int p2), .val (.ref b1), .unset, .unset, .unset, .unset] [(.ref b77)])) t → Steps p.tables e below (s₁.setTop (entryFrame m #[(.int p1), (.int p2)] maxLocals)) t := by
    intro t k
    refine pre79 _ ?_
    show Steps p.tables e below (T78.setTop (mkF m 183 #[.val (.int p1), .val (.int p2), .val (.ref b1), .unset, .unset, .unset, .unset] [(.ref b77)])) _
    refine XS.dup X78a.here hx rfl (hb hby at_183) rfl rfl ?_
    show Steps p.tables e below (T78.setTop (mkF m 184 #[.val (.int p1), .val (.int p2), .val (.ref b1), .unset, .unset, .unset, .unset] [(.ref b77), (.ref b77)])) _
    refine XS.iconst X78a.here hx rfl (hb hby at_184) ?_
    show Steps p.tables e below (T78.setTop (mkF m 185 #[.val (.int p1), .val (.int p2), .val (.ref b1), .unset, .unset, .unset, .unset] [(.int (1 : Int32)), (.ref b77), (.ref b77)])) _
    refine XS.iconst X78a.here hx rfl (hb hby at_185) ?_
    show Steps p.tables e below (T78.setTop (mkF m 186 #[.val (.int p1), .val (.int p2), .val (.ref b1), .unset, .unset, .unset, .unset] [(.int (3 : Int32)), (.int (1 : Int32)), (.ref b77), (.ref b77)])) _
    refine st80 _ ?_
    exact k
  clear X78a e78 st80 Z78 N78a O78o N80 X80 W80 Ar_b77 q_b77 S_b77 N_b77 H_b77 G_b77 hin186 cl_b77 pre79
  obtain ⟨cl_b77, Ar_b77, q_b77, S_b77, N_b77, H_b77, G_b77⟩ := V_b77
  have hin190 : ¬ ((2 : Int32) < 0 ∨ cl_b77.slots.size ≤ ((2 : Int32)).toNatClampNeg) := inb_of S_b77 ⟨by decide, by decide⟩
  obtain ⟨T82, h82, X82, e82, W82, st82⟩ := stI X80a hx hZ e80 Ar_b77 (j := (2 : Int32)) hin190 (g := (mkF m 190 #[.val (.int p1), .val (.int p2), .val (.ref b1), .unset, .unset, .unset, .unset] [(.int (5 : Int32)), (.int (2 : Int32)), (.ref b77), (.ref b77)])) rfl rfl (hb hby at_190)
  replace V_b1 := V_b1.other W82 ne_b1_b77
  have Z82 : n0 ≤ h82.size := Nat.le_trans Z80 (Keep.of_wr W82).1
  have N82 := Fr.snoc X82 N80a g_b77
  have O82o := O80o.wr W82 g_b77
  have V_b77 : Arv Z h82 b77 k77 .int (25 : Int32) [(.int (1 : Int32)), (.int (3 : Int32)), (.int (5 : Int32)), (.int (0 : Int32)), (.int (0 : Int32)), (.int (0 : Int32)), (.int (0 : Int32)), (.int (0 : Int32)), (.int (0 : Int32)), (.int (0 : Int32)), (.int (0 : Int32)), (.int (0 : Int32)), (.int (0 : Int32)), (.int (0 : Int32)), (.int (0 : Int32)), (.int (0 : Int32)), (.int (0 : Int32)), (.int (0 : Int32)), (.int (0 : Int32)), (.int (0 : Int32)), (.int (0 : Int32)), (.int (0 : Int32)), (.int (0 : Int32)), (.int (0 : Int32)), (.int (0 : Int32))] (.int (0 : Int32)) := Arv.set Ar_b77 q_b77 S_b77 N_b77 H_b77 G_b77 rfl W82 2 rfl (Nat.le_of_ble_eq_true rfl)
  obtain ⟨L82a, X82a, N82a⟩ : ∃ L, Stand p l e room_1 s m #[(.int p1), (.int p2)] below meth c T82 L 2 50 ∧ Fr n0 L := ⟨_, X82, N82⟩
  have pre83 : ∀ t, Steps p.tables e below (T82.setTop (mkF m 191 #[.val (.int p1), .val (.int p2), .val (.ref b1), .unset, .unset, .unset, .unset] [(.ref b77)])) t → Steps p.tables e below (s₁.setTop (entryFrame m #[(.int p1), (.int p2)] maxLocals)) t := by
    intro t k
    refine pre81 _ ?_
    show Steps p.tables e below (T80.setTop (mkF m 187 #[.val (.int p1), .val (.int p2), .val (.ref b1), .unset, .unset, .unset, .unset] [(.ref b77)])) _
    refine XS.dup X80a.here hx rfl (hb hby at_187) rfl rfl ?_
    show Steps p.tables e below (T80.setTop (mkF m 188 #[.val (.int p1), .val (.int p2), .val (.ref b1), .unset, .unset, .unset, .unset] [(.ref b77), (.ref b77)])) _
    refine XS.iconst X80a.here hx rfl (hb hby at_188) ?_
    show Steps p.tables e below (T80.setTop (mkF m 189 #[.val (.int p1), .val (.int p2), .val (.ref b1), .unset, .unset, .unset, .unset] [(.int (2 : Int32)), (.ref b77), (.ref b77)])) _
    refine XS.iconst X80a.here hx rfl (hb hby at_189) ?_
    show Steps p.tables e below (T80.setTop (mkF m 190 #[.val (.int p1), .val (.int p2), .val (.ref b1), .unset, .unset, .unset, .unset] [(.int (5 : Int32)), (.int (2 : Int32)), (.ref b77), (.ref b77)])) _
    refine st82 _ ?_
    exact k
  clear X80a e80 st82 Z80 N80a O80o N82 X82 W82 Ar_b77 q_b77 S_b77 N_b77 H_b77 G_b77 hin190 cl_b77 pre81
  obtain ⟨cl_b77, Ar_b77, q_b77, S_b77, N_b77, H_b77, G_b77⟩ := V_b77
  have hin195 : ¬ ((3 : Int32) < 0 ∨ cl_b77.slots.size ≤ ((3 : Int32)).toNatClampNeg) := inb_of S_b77 ⟨by decide, by decide⟩
  obtain ⟨T84, h84, X84, e84, W84, st84⟩ := stI X82a hx hZ e82 Ar_b77 (j := (3 : Int32)) hin195 (g := (mkF m 195 #[.val (.int p1), .val (.int p2), .val (.ref b1), .unset, .unset, .unset, .unset] [(.int (9 : Int32)), (.int (3 : Int32)), (.ref b77), (.ref b77)])) rfl rfl (hb hby at_195)
  replace V_b1 := V_b1.other W84 ne_b1_b77
  have Z84 : n0 ≤ h84.size := Nat.le_trans Z82 (Keep.of_wr W84).1
  have N84 := Fr.snoc X84 N82a g_b77
  have O84o := O82o.wr W84 g_b77
  have V_b77 : Arv Z h84 b77 k77 .int (25 : Int32) [(.int (1 : Int32)), (.int (3 : Int32)), (.int (5 : Int32)), (.int (9 : Int32)), (.int (0 : Int32)), (.int (0 : Int32)), (.int (0 : Int32)), (.int (0 : Int32)), (.int (0 : Int32)), (.int (0 : Int32)), (.int (0 : Int32)), (.int (0 : Int32)), (.int (0 : Int32)), (.int (0 : Int32)), (.int (0 : Int32)), (.int (0 : Int32)), (.int (0 : Int32)), (.int (0 : Int32)), (.int (0 : Int32)), (.int (0 : Int32)), (.int (0 : Int32)), (.int (0 : Int32)), (.int (0 : Int32)), (.int (0 : Int32)), (.int (0 : Int32))] (.int (0 : Int32)) := Arv.set Ar_b77 q_b77 S_b77 N_b77 H_b77 G_b77 rfl W84 3 rfl (Nat.le_of_ble_eq_true rfl)
  obtain ⟨L84a, X84a, N84a⟩ : ∃ L, Stand p l e room_1 s m #[(.int p1), (.int p2)] below meth c T84 L 2 50 ∧ Fr n0 L := ⟨_, X84, N84⟩
  have pre85 : ∀ t, Steps p.tables e below (T84.setTop (mkF m 196 #[.val (.int p1), .val (.int p2), .val (.ref b1), .unset, .unset, .unset, .unset] [(.ref b77)])) t → Steps p.tables e below (s₁.setTop (entryFrame m #[(.int p1), (.int p2)] maxLocals)) t := by
    intro t k
    refine pre83 _ ?_
    show Steps p.tables e below (T82.setTop (mkF m 191 #[.val (.int p1), .val (.int p2), .val (.ref b1), .unset, .unset, .unset, .unset] [(.ref b77)])) _
    refine XS.dup X82a.here hx rfl (hb hby at_191) rfl rfl ?_
    show Steps p.tables e below (T82.setTop (mkF m 192 #[.val (.int p1), .val (.int p2), .val (.ref b1), .unset, .unset, .unset, .unset] [(.ref b77), (.ref b77)])) _
    refine XS.iconst X82a.here hx rfl (hb hby at_192) ?_
    show Steps p.tables e below (T82.setTop (mkF m 193 #[.val (.int p1), .val (.int p2), .val (.ref b1), .unset, .unset, .unset, .unset] [(.int (3 : Int32)), (.ref b77), (.ref b77)])) _
    refine XS.bipush X82a.here hx rfl (hb hby at_193) ?_
    show Steps p.tables e below (T82.setTop (mkF m 195 #[.val (.int p1), .val (.int p2), .val (.ref b1), .unset, .unset, .unset, .unset] [(.int (9 : Int32)), (.int (3 : Int32)), (.ref b77), (.ref b77)])) _
    refine st84 _ ?_
    exact k
  clear X82a e82 st84 Z82 N82a O82o N84 X84 W84 Ar_b77 q_b77 S_b77 N_b77 H_b77 G_b77 hin195 cl_b77 pre83
  obtain ⟨cl_b77, Ar_b77, q_b77, S_b77, N_b77, H_b77, G_b77⟩ := V_b77
  have hin200 : ¬ ((4 : Int32) < 0 ∨ cl_b77.slots.size ≤ ((4 : Int32)).toNatClampNeg) := inb_of S_b77 ⟨by decide, by decide⟩
  obtain ⟨T86, h86, X86, e86, W86, st86⟩ := stI X84a hx hZ e84 Ar_b77 (j := (4 : Int32)) hin200 (g := (mkF m 200 #[.val (.int p1), .val (.int p2), .val (.ref b1), .unset, .unset, .unset, .unset] [(.int (25 : Int32)), (.int (4 : Int32)), (.ref b77), (.ref b77)])) rfl rfl (hb hby at_200)
  replace V_b1 := V_b1.other W86 ne_b1_b77
  have Z86 : n0 ≤ h86.size := Nat.le_trans Z84 (Keep.of_wr W86).1
  have N86 := Fr.snoc X86 N84a g_b77
  have O86o := O84o.wr W86 g_b77
  have V_b77 : Arv Z h86 b77 k77 .int (25 : Int32) [(.int (1 : Int32)), (.int (3 : Int32)), (.int (5 : Int32)), (.int (9 : Int32)), (.int (25 : Int32)), (.int (0 : Int32)), (.int (0 : Int32)), (.int (0 : Int32)), (.int (0 : Int32)), (.int (0 : Int32)), (.int (0 : Int32)), (.int (0 : Int32)), (.int (0 : Int32)), (.int (0 : Int32)), (.int (0 : Int32)), (.int (0 : Int32)), (.int (0 : Int32)), (.int (0 : Int32)), (.int (0 : Int32)), (.int (0 : Int32)), (.int (0 : Int32)), (.int (0 : Int32)), (.int (0 : Int32)), (.int (0 : Int32)), (.int (0 : Int32))] (.int (0 : Int32)) := Arv.set Ar_b77 q_b77 S_b77 N_b77 H_b77 G_b77 rfl W86 4 rfl (Nat.le_of_ble_eq_true rfl)
  obtain ⟨L86a, X86a, N86a⟩ : ∃ L, Stand p l e room_1 s m #[(.int p1), (.int p2)] below meth c T86 L 2 50 ∧ Fr n0 L := ⟨_, X86, N86⟩
  have pre87 : ∀ t, Steps p.tables e below (T86.setTop (mkF m 201 #[.val (.int p1), .val (.int p2), .val (.ref b1), .unset, .unset, .unset, .unset] [(.ref b77)])) t → Steps p.tables e below (s₁.setTop (entryFrame m #[(.int p1), (.int p2)] maxLocals)) t := by
    intro t k
    refine pre85 _ ?_
    show Steps p.tables e below (T84.setTop (mkF m 196 #[.val (.int p1), .val (.int p2), .val (.ref b1), .unset, .unset, .unset, .unset] [(.ref b77)])) _
    refine XS.dup X84a.here hx rfl (hb hby at_196) rfl rfl ?_
    show Steps p.tables e below (T84.setTop (mkF m 197 #[.val (.int p1), .val (.int p2), .val (.ref b1), .unset, .unset, .unset, .unset] [(.ref b77), (.ref b77)])) _
    refine XS.iconst X84a.here hx rfl (hb hby at_197) ?_
    show Steps p.tables e below (T84.setTop (mkF m 198 #[.val (.int p1), .val (.int p2), .val (.ref b1), .unset, .unset, .unset, .unset] [(.int (4 : Int32)), (.ref b77), (.ref b77)])) _
    refine XS.bipush X84a.here hx rfl (hb hby at_198) ?_
    show Steps p.tables e below (T84.setTop (mkF m 200 #[.val (.int p1), .val (.int p2), .val (.ref b1), .unset, .unset, .unset, .unset] [(.int (25 : Int32)), (.int (4 : Int32)), (.ref b77), (.ref b77)])) _
    refine st86 _ ?_
    exact k
  clear X84a e84 st86 Z84 N84a O84o N86 X86 W86 Ar_b77 q_b77 S_b77 N_b77 H_b77 G_b77 hin200 cl_b77 pre85
  obtain ⟨cl_b77, Ar_b77, q_b77, S_b77, N_b77, H_b77, G_b77⟩ := V_b77
  have hin205 : ¬ ((5 : Int32) < 0 ∨ cl_b77.slots.size ≤ ((5 : Int32)).toNatClampNeg) := inb_of S_b77 ⟨by decide, by decide⟩
  obtain ⟨T88, h88, X88, e88, W88, st88⟩ := stI X86a hx hZ e86 Ar_b77 (j := (5 : Int32)) hin205 (g := (mkF m 205 #[.val (.int p1), .val (.int p2), .val (.ref b1), .unset, .unset, .unset, .unset] [(.int (57 : Int32)), (.int (5 : Int32)), (.ref b77), (.ref b77)])) rfl rfl (hb hby at_205)
  replace V_b1 := V_b1.other W88 ne_b1_b77
  have Z88 : n0 ≤ h88.size := Nat.le_trans Z86 (Keep.of_wr W88).1
  have N88 := Fr.snoc X88 N86a g_b77
  have O88o := O86o.wr W88 g_b77
  have V_b77 : Arv Z h88 b77 k77 .int (25 : Int32) [(.int (1 : Int32)), (.int (3 : Int32)), (.int (5 : Int32)), (.int (9 : Int32)), (.int (25 : Int32)), (.int (57 : Int32)), (.int (0 : Int32)), (.int (0 : Int32)), (.int (0 : Int32)), (.int (0 : Int32)), (.int (0 : Int32)), (.int (0 : Int32)), (.int (0 : Int32)), (.int (0 : Int32)), (.int (0 : Int32)), (.int (0 : Int32)), (.int (0 : Int32)), (.int (0 : Int32)), (.int (0 : Int32)), (.int (0 : Int32)), (.int (0 : Int32)), (.int (0 : Int32)), (.int (0 : Int32)), (.int (0 : Int32)), (.int (0 : Int32))] (.int (0 : Int32)) := Arv.set Ar_b77 q_b77 S_b77 N_b77 H_b77 G_b77 rfl W88 5 rfl (Nat.le_of_ble_eq_true rfl)
  obtain ⟨L88a, X88a, N88a⟩ : ∃ L, Stand p l e room_1 s m #[(.int p1), (.int p2)] below meth c T88 L 2 50 ∧ Fr n0 L := ⟨_, X88, N88⟩
  have pre89 : ∀ t, Steps p.tables e below (T88.setTop (mkF m 206 #[.val (.int p1), .val (.int p2), .val (.ref b1), .unset, .unset, .unset, .unset] [(.ref b77)])) t → Steps p.tables e below (s₁.setTop (entryFrame m #[(.int p1), (.int p2)] maxLocals)) t := by
    intro t k
    refine pre87 _ ?_
    show Steps p.tables e below (T86.setTop (mkF m 201 #[.val (.int p1), .val (.int p2), .val (.ref b1), .unset, .unset, .unset, .unset] [(.ref b77)])) _
    refine XS.dup X86a.here hx rfl (hb hby at_201) rfl rfl ?_
    show Steps p.tables e below (T86.setTop (mkF m 202 #[.val (.int p1), .val (.int p2), .val (.ref b1), .unset, .unset, .unset, .unset] [(.ref b77), (.ref b77)])) _
    refine XS.iconst X86a.here hx rfl (hb hby at_202) ?_
    show Steps p.tables e below (T86.setTop (mkF m 203 #[.val (.int p1), .val (.int p2), .val (.ref b1), .unset, .unset, .unset, .unset] [(.int (5 : Int32)), (.ref b77), (.ref b77)])) _
    refine XS.bipush X86a.here hx rfl (hb hby at_203) ?_
    show Steps p.tables e below (T86.setTop (mkF m 205 #[.val (.int p1), .val (.int p2), .val (.ref b1), .unset, .unset, .unset, .unset] [(.int (57 : Int32)), (.int (5 : Int32)), (.ref b77), (.ref b77)])) _
    refine st88 _ ?_
    exact k
  clear X86a e86 st88 Z86 N86a O86o N88 X88 W88 Ar_b77 q_b77 S_b77 N_b77 H_b77 G_b77 hin205 cl_b77 pre87
  obtain ⟨cl_b77, Ar_b77, q_b77, S_b77, N_b77, H_b77, G_b77⟩ := V_b77
  have hin211 : ¬ ((6 : Int32) < 0 ∨ cl_b77.slots.size ≤ ((6 : Int32)).toNatClampNeg) := inb_of S_b77 ⟨by decide, by decide⟩
  obtain ⟨T90, h90, X90, e90, W90, st90⟩ := stI X88a hx hZ e88 Ar_b77 (j := (6 : Int32)) hin211 (g := (mkF m 211 #[.val (.int p1), .val (.int p2), .val (.ref b1), .unset, .unset, .unset, .unset] [(.int (121 : Int32)), (.int (6 : Int32)), (.ref b77), (.ref b77)])) rfl rfl (hb hby at_211)
  replace V_b1 := V_b1.other W90 ne_b1_b77
  have Z90 : n0 ≤ h90.size := Nat.le_trans Z88 (Keep.of_wr W90).1
  have N90 := Fr.snoc X90 N88a g_b77
  have O90o := O88o.wr W90 g_b77
  have V_b77 : Arv Z h90 b77 k77 .int (25 : Int32) [(.int (1 : Int32)), (.int (3 : Int32)), (.int (5 : Int32)), (.int (9 : Int32)), (.int (25 : Int32)), (.int (57 : Int32)), (.int (121 : Int32)), (.int (0 : Int32)), (.int (0 : Int32)), (.int (0 : Int32)), (.int (0 : Int32)), (.int (0 : Int32)), (.int (0 : Int32)), (.int (0 : Int32)), (.int (0 : Int32)), (.int (0 : Int32)), (.int (0 : Int32)), (.int (0 : Int32)), (.int (0 : Int32)), (.int (0 : Int32)), (.int (0 : Int32)), (.int (0 : Int32)), (.int (0 : Int32)), (.int (0 : Int32)), (.int (0 : Int32))] (.int (0 : Int32)) := Arv.set Ar_b77 q_b77 S_b77 N_b77 H_b77 G_b77 rfl W90 6 rfl (Nat.le_of_ble_eq_true rfl)
  obtain ⟨L90a, X90a, N90a⟩ : ∃ L, Stand p l e room_1 s m #[(.int p1), (.int p2)] below meth c T90 L 2 50 ∧ Fr n0 L := ⟨_, X90, N90⟩
  have pre91 : ∀ t, Steps p.tables e below (T90.setTop (mkF m 212 #[.val (.int p1), .val (.int p2), .val (.ref b1), .unset, .unset, .unset, .unset] [(.ref b77)])) t → Steps p.tables e below (s₁.setTop (entryFrame m #[(.int p1), (.int p2)] maxLocals)) t := by
    intro t k
    refine pre89 _ ?_
    show Steps p.tables e below (T88.setTop (mkF m 206 #[.val (.int p1), .val (.int p2), .val (.ref b1), .unset, .unset, .unset, .unset] [(.ref b77)])) _
    refine XS.dup X88a.here hx rfl (hb hby at_206) rfl rfl ?_
    show Steps p.tables e below (T88.setTop (mkF m 207 #[.val (.int p1), .val (.int p2), .val (.ref b1), .unset, .unset, .unset, .unset] [(.ref b77), (.ref b77)])) _
    refine XS.bipush X88a.here hx rfl (hb hby at_207) ?_
    show Steps p.tables e below (T88.setTop (mkF m 209 #[.val (.int p1), .val (.int p2), .val (.ref b1), .unset, .unset, .unset, .unset] [(.int (6 : Int32)), (.ref b77), (.ref b77)])) _
    refine XS.bipush X88a.here hx rfl (hb hby at_209) ?_
    show Steps p.tables e below (T88.setTop (mkF m 211 #[.val (.int p1), .val (.int p2), .val (.ref b1), .unset, .unset, .unset, .unset] [(.int (121 : Int32)), (.int (6 : Int32)), (.ref b77), (.ref b77)])) _
    refine st90 _ ?_
    exact k
  clear X88a e88 st90 Z88 N88a O88o N90 X90 W90 Ar_b77 q_b77 S_b77 N_b77 H_b77 G_b77 hin211 cl_b77 pre89
  obtain ⟨cl_b77, Ar_b77, q_b77, S_b77, N_b77, H_b77, G_b77⟩ := V_b77
  have hin218 : ¬ ((7 : Int32) < 0 ∨ cl_b77.slots.size ≤ ((7 : Int32)).toNatClampNeg) := inb_of S_b77 ⟨by decide, by decide⟩
  obtain ⟨T92, h92, X92, e92, W92, st92⟩ := stI X90a hx hZ e90 Ar_b77 (j := (7 : Int32)) hin218 (g := (mkF m 218 #[.val (.int p1), .val (.int p2), .val (.ref b1), .unset, .unset, .unset, .unset] [(.int (153 : Int32)), (.int (7 : Int32)), (.ref b77), (.ref b77)])) rfl rfl (hb hby at_218)
  replace V_b1 := V_b1.other W92 ne_b1_b77
  have Z92 : n0 ≤ h92.size := Nat.le_trans Z90 (Keep.of_wr W92).1
  have N92 := Fr.snoc X92 N90a g_b77
  have O92o := O90o.wr W92 g_b77
  have V_b77 : Arv Z h92 b77 k77 .int (25 : Int32) [(.int (1 : Int32)), (.int (3 : Int32)), (.int (5 : Int32)), (.int (9 : Int32)), (.int (25 : Int32)), (.int (57 : Int32)), (.int (121 : Int32)), (.int (153 : Int32)), (.int (0 : Int32)), (.int (0 : Int32)), (.int (0 : Int32)), (.int (0 : Int32)), (.int (0 : Int32)), (.int (0 : Int32)), (.int (0 : Int32)), (.int (0 : Int32)), (.int (0 : Int32)), (.int (0 : Int32)), (.int (0 : Int32)), (.int (0 : Int32)), (.int (0 : Int32)), (.int (0 : Int32)), (.int (0 : Int32)), (.int (0 : Int32)), (.int (0 : Int32))] (.int (0 : Int32)) := Arv.set Ar_b77 q_b77 S_b77 N_b77 H_b77 G_b77 rfl W92 7 rfl (Nat.le_of_ble_eq_true rfl)
  obtain ⟨L92a, X92a, N92a⟩ : ∃ L, Stand p l e room_1 s m #[(.int p1), (.int p2)] below meth c T92 L 2 50 ∧ Fr n0 L := ⟨_, X92, N92⟩
  have pre93 : ∀ t, Steps p.tables e below (T92.setTop (mkF m 219 #[.val (.int p1), .val (.int p2), .val (.ref b1), .unset, .unset, .unset, .unset] [(.ref b77)])) t → Steps p.tables e below (s₁.setTop (entryFrame m #[(.int p1), (.int p2)] maxLocals)) t := by
    intro t k
    refine pre91 _ ?_
    show Steps p.tables e below (T90.setTop (mkF m 212 #[.val (.int p1), .val (.int p2), .val (.ref b1), .unset, .unset, .unset, .unset] [(.ref b77)])) _
    refine XS.dup X90a.here hx rfl (hb hby at_212) rfl rfl ?_
    show Steps p.tables e below (T90.setTop (mkF m 213 #[.val (.int p1), .val (.int p2), .val (.ref b1), .unset, .unset, .unset, .unset] [(.ref b77), (.ref b77)])) _
    refine XS.bipush X90a.here hx rfl (hb hby at_213) ?_
    show Steps p.tables e below (T90.setTop (mkF m 215 #[.val (.int p1), .val (.int p2), .val (.ref b1), .unset, .unset, .unset, .unset] [(.int (7 : Int32)), (.ref b77), (.ref b77)])) _
    refine XS.sipush X90a.here hx rfl (hb hby at_215) ?_
    show Steps p.tables e below (T90.setTop (mkF m 218 #[.val (.int p1), .val (.int p2), .val (.ref b1), .unset, .unset, .unset, .unset] [(.int (153 : Int32)), (.int (7 : Int32)), (.ref b77), (.ref b77)])) _
    refine st92 _ ?_
    exact k
  clear X90a e90 st92 Z90 N90a O90o N92 X92 W92 Ar_b77 q_b77 S_b77 N_b77 H_b77 G_b77 hin218 cl_b77 pre91
  obtain ⟨cl_b77, Ar_b77, q_b77, S_b77, N_b77, H_b77, G_b77⟩ := V_b77
  have hin225 : ¬ ((8 : Int32) < 0 ∨ cl_b77.slots.size ≤ ((8 : Int32)).toNatClampNeg) := inb_of S_b77 ⟨by decide, by decide⟩
  obtain ⟨T94, h94, X94, e94, W94, st94⟩ := stI X92a hx hZ e92 Ar_b77 (j := (8 : Int32)) hin225 (g := (mkF m 225 #[.val (.int p1), .val (.int p2), .val (.ref b1), .unset, .unset, .unset, .unset] [(.int (409 : Int32)), (.int (8 : Int32)), (.ref b77), (.ref b77)])) rfl rfl (hb hby at_225)
  replace V_b1 := V_b1.other W94 ne_b1_b77
  have Z94 : n0 ≤ h94.size := Nat.le_trans Z92 (Keep.of_wr W94).1
  have N94 := Fr.snoc X94 N92a g_b77
  have O94o := O92o.wr W94 g_b77
  have V_b77 : Arv Z h94 b77 k77 .int (25 : Int32) [(.int (1 : Int32)), (.int (3 : Int32)), (.int (5 : Int32)), (.int (9 : Int32)), (.int (25 : Int32)), (.int (57 : Int32)), (.int (121 : Int32)), (.int (153 : Int32)), (.int (409 : Int32)), (.int (0 : Int32)), (.int (0 : Int32)), (.int (0 : Int32)), (.int (0 : Int32)), (.int (0 : Int32)), (.int (0 : Int32)), (.int (0 : Int32)), (.int (0 : Int32)), (.int (0 : Int32)), (.int (0 : Int32)), (.int (0 : Int32)), (.int (0 : Int32)), (.int (0 : Int32)), (.int (0 : Int32)), (.int (0 : Int32)), (.int (0 : Int32))] (.int (0 : Int32)) := Arv.set Ar_b77 q_b77 S_b77 N_b77 H_b77 G_b77 rfl W94 8 rfl (Nat.le_of_ble_eq_true rfl)
  obtain ⟨L94a, X94a, N94a⟩ : ∃ L, Stand p l e room_1 s m #[(.int p1), (.int p2)] below meth c T94 L 2 50 ∧ Fr n0 L := ⟨_, X94, N94⟩
  have pre95 : ∀ t, Steps p.tables e below (T94.setTop (mkF m 226 #[.val (.int p1), .val (.int p2), .val (.ref b1), .unset, .unset, .unset, .unset] [(.ref b77)])) t → Steps p.tables e below (s₁.setTop (entryFrame m #[(.int p1), (.int p2)] maxLocals)) t := by
    intro t k
    refine pre93 _ ?_
    show Steps p.tables e below (T92.setTop (mkF m 219 #[.val (.int p1), .val (.int p2), .val (.ref b1), .unset, .unset, .unset, .unset] [(.ref b77)])) _
    refine XS.dup X92a.here hx rfl (hb hby at_219) rfl rfl ?_
    show Steps p.tables e below (T92.setTop (mkF m 220 #[.val (.int p1), .val (.int p2), .val (.ref b1), .unset, .unset, .unset, .unset] [(.ref b77), (.ref b77)])) _
    refine XS.bipush X92a.here hx rfl (hb hby at_220) ?_
    show Steps p.tables e below (T92.setTop (mkF m 222 #[.val (.int p1), .val (.int p2), .val (.ref b1), .unset, .unset, .unset, .unset] [(.int (8 : Int32)), (.ref b77), (.ref b77)])) _
    refine XS.sipush X92a.here hx rfl (hb hby at_222) ?_
    show Steps p.tables e below (T92.setTop (mkF m 225 #[.val (.int p1), .val (.int p2), .val (.ref b1), .unset, .unset, .unset, .unset] [(.int (409 : Int32)), (.int (8 : Int32)), (.ref b77), (.ref b77)])) _
    refine st94 _ ?_
    exact k
  clear X92a e92 st94 Z92 N92a O92o N94 X94 W94 Ar_b77 q_b77 S_b77 N_b77 H_b77 G_b77 hin225 cl_b77 pre93
  obtain ⟨cl_b77, Ar_b77, q_b77, S_b77, N_b77, H_b77, G_b77⟩ := V_b77
  have hin232 : ¬ ((9 : Int32) < 0 ∨ cl_b77.slots.size ≤ ((9 : Int32)).toNatClampNeg) := inb_of S_b77 ⟨by decide, by decide⟩
  obtain ⟨T96, h96, X96, e96, W96, st96⟩ := stI X94a hx hZ e94 Ar_b77 (j := (9 : Int32)) hin232 (g := (mkF m 232 #[.val (.int p1), .val (.int p2), .val (.ref b1), .unset, .unset, .unset, .unset] [(.int (921 : Int32)), (.int (9 : Int32)), (.ref b77), (.ref b77)])) rfl rfl (hb hby at_232)
  replace V_b1 := V_b1.other W96 ne_b1_b77
  have Z96 : n0 ≤ h96.size := Nat.le_trans Z94 (Keep.of_wr W96).1
  have N96 := Fr.snoc X96 N94a g_b77
  have O96o := O94o.wr W96 g_b77
  have V_b77 : Arv Z h96 b77 k77 .int (25 : Int32) [(.int (1 : Int32)), (.int (3 : Int32)), (.int (5 : Int32)), (.int (9 : Int32)), (.int (25 : Int32)), (.int (57 : Int32)), (.int (121 : Int32)), (.int (153 : Int32)), (.int (409 : Int32)), (.int (921 : Int32)), (.int (0 : Int32)), (.int (0 : Int32)), (.int (0 : Int32)), (.int (0 : Int32)), (.int (0 : Int32)), (.int (0 : Int32)), (.int (0 : Int32)), (.int (0 : Int32)), (.int (0 : Int32)), (.int (0 : Int32)), (.int (0 : Int32)), (.int (0 : Int32)), (.int (0 : Int32)), (.int (0 : Int32)), (.int (0 : Int32))] (.int (0 : Int32)) := Arv.set Ar_b77 q_b77 S_b77 N_b77 H_b77 G_b77 rfl W96 9 rfl (Nat.le_of_ble_eq_true rfl)
  obtain ⟨L96a, X96a, N96a⟩ : ∃ L, Stand p l e room_1 s m #[(.int p1), (.int p2)] below meth c T96 L 2 50 ∧ Fr n0 L := ⟨_, X96, N96⟩
  have pre97 : ∀ t, Steps p.tables e below (T96.setTop (mkF m 233 #[.val (.int p1), .val (.int p2), .val (.ref b1), .unset, .unset, .unset, .unset] [(.ref b77)])) t → Steps p.tables e below (s₁.setTop (entryFrame m #[(.int p1), (.int p2)] maxLocals)) t := by
    intro t k
    refine pre95 _ ?_
    show Steps p.tables e below (T94.setTop (mkF m 226 #[.val (.int p1), .val (.int p2), .val (.ref b1), .unset, .unset, .unset, .unset] [(.ref b77)])) _
    refine XS.dup X94a.here hx rfl (hb hby at_226) rfl rfl ?_
    show Steps p.tables e below (T94.setTop (mkF m 227 #[.val (.int p1), .val (.int p2), .val (.ref b1), .unset, .unset, .unset, .unset] [(.ref b77), (.ref b77)])) _
    refine XS.bipush X94a.here hx rfl (hb hby at_227) ?_
    show Steps p.tables e below (T94.setTop (mkF m 229 #[.val (.int p1), .val (.int p2), .val (.ref b1), .unset, .unset, .unset, .unset] [(.int (9 : Int32)), (.ref b77), (.ref b77)])) _
    refine XS.sipush X94a.here hx rfl (hb hby at_229) ?_
    show Steps p.tables e below (T94.setTop (mkF m 232 #[.val (.int p1), .val (.int p2), .val (.ref b1), .unset, .unset, .unset, .unset] [(.int (921 : Int32)), (.int (9 : Int32)), (.ref b77), (.ref b77)])) _
    refine st96 _ ?_
    exact k
  clear X94a e94 st96 Z94 N94a O94o N96 X96 W96 Ar_b77 q_b77 S_b77 N_b77 H_b77 G_b77 hin232 cl_b77 pre95
  obtain ⟨cl_b77, Ar_b77, q_b77, S_b77, N_b77, H_b77, G_b77⟩ := V_b77
  have hin239 : ¬ ((10 : Int32) < 0 ∨ cl_b77.slots.size ≤ ((10 : Int32)).toNatClampNeg) := inb_of S_b77 ⟨by decide, by decide⟩
  obtain ⟨T98, h98, X98, e98, W98, st98⟩ := stI X96a hx hZ e96 Ar_b77 (j := (10 : Int32)) hin239 (g := (mkF m 239 #[.val (.int p1), .val (.int p2), .val (.ref b1), .unset, .unset, .unset, .unset] [(.int (1945 : Int32)), (.int (10 : Int32)), (.ref b77), (.ref b77)])) rfl rfl (hb hby at_239)
  replace V_b1 := V_b1.other W98 ne_b1_b77
  have Z98 : n0 ≤ h98.size := Nat.le_trans Z96 (Keep.of_wr W98).1
  have N98 := Fr.snoc X98 N96a g_b77
  have O98o := O96o.wr W98 g_b77
  have V_b77 : Arv Z h98 b77 k77 .int (25 : Int32) [(.int (1 : Int32)), (.int (3 : Int32)), (.int (5 : Int32)), (.int (9 : Int32)), (.int (25 : Int32)), (.int (57 : Int32)), (.int (121 : Int32)), (.int (153 : Int32)), (.int (409 : Int32)), (.int (921 : Int32)), (.int (1945 : Int32)), (.int (0 : Int32)), (.int (0 : Int32)), (.int (0 : Int32)), (.int (0 : Int32)), (.int (0 : Int32)), (.int (0 : Int32)), (.int (0 : Int32)), (.int (0 : Int32)), (.int (0 : Int32)), (.int (0 : Int32)), (.int (0 : Int32)), (.int (0 : Int32)), (.int (0 : Int32)), (.int (0 : Int32))] (.int (0 : Int32)) := Arv.set Ar_b77 q_b77 S_b77 N_b77 H_b77 G_b77 rfl W98 10 rfl (Nat.le_of_ble_eq_true rfl)
  obtain ⟨L98a, X98a, N98a⟩ : ∃ L, Stand p l e room_1 s m #[(.int p1), (.int p2)] below meth c T98 L 2 50 ∧ Fr n0 L := ⟨_, X98, N98⟩
  have pre99 : ∀ t, Steps p.tables e below (T98.setTop (mkF m 240 #[.val (.int p1), .val (.int p2), .val (.ref b1), .unset, .unset, .unset, .unset] [(.ref b77)])) t → Steps p.tables e below (s₁.setTop (entryFrame m #[(.int p1), (.int p2)] maxLocals)) t := by
    intro t k
    refine pre97 _ ?_
    show Steps p.tables e below (T96.setTop (mkF m 233 #[.val (.int p1), .val (.int p2), .val (.ref b1), .unset, .unset, .unset, .unset] [(.ref b77)])) _
    refine XS.dup X96a.here hx rfl (hb hby at_233) rfl rfl ?_
    show Steps p.tables e below (T96.setTop (mkF m 234 #[.val (.int p1), .val (.int p2), .val (.ref b1), .unset, .unset, .unset, .unset] [(.ref b77), (.ref b77)])) _
    refine XS.bipush X96a.here hx rfl (hb hby at_234) ?_
    show Steps p.tables e below (T96.setTop (mkF m 236 #[.val (.int p1), .val (.int p2), .val (.ref b1), .unset, .unset, .unset, .unset] [(.int (10 : Int32)), (.ref b77), (.ref b77)])) _
    refine XS.sipush X96a.here hx rfl (hb hby at_236) ?_
    show Steps p.tables e below (T96.setTop (mkF m 239 #[.val (.int p1), .val (.int p2), .val (.ref b1), .unset, .unset, .unset, .unset] [(.int (1945 : Int32)), (.int (10 : Int32)), (.ref b77), (.ref b77)])) _
    refine st98 _ ?_
    exact k
  clear X96a e96 st98 Z96 N96a O96o N98 X98 W98 Ar_b77 q_b77 S_b77 N_b77 H_b77 G_b77 hin239 cl_b77 pre97
  obtain ⟨cl_b77, Ar_b77, q_b77, S_b77, N_b77, H_b77, G_b77⟩ := V_b77
  have hin246 : ¬ ((11 : Int32) < 0 ∨ cl_b77.slots.size ≤ ((11 : Int32)).toNatClampNeg) := inb_of S_b77 ⟨by decide, by decide⟩
  obtain ⟨T100, h100, X100, e100, W100, st100⟩ := stI X98a hx hZ e98 Ar_b77 (j := (11 : Int32)) hin246 (g := (mkF m 246 #[.val (.int p1), .val (.int p2), .val (.ref b1), .unset, .unset, .unset, .unset] [(.int (2073 : Int32)), (.int (11 : Int32)), (.ref b77), (.ref b77)])) rfl rfl (hb hby at_246)
  replace V_b1 := V_b1.other W100 ne_b1_b77
  have Z100 : n0 ≤ h100.size := Nat.le_trans Z98 (Keep.of_wr W100).1
  have N100 := Fr.snoc X100 N98a g_b77
  have O100o := O98o.wr W100 g_b77
  have V_b77 : Arv Z h100 b77 k77 .int (25 : Int32) [(.int (1 : Int32)), (.int (3 : Int32)), (.int (5 : Int32)), (.int (9 : Int32)), (.int (25 : Int32)), (.int (57 : Int32)), (.int (121 : Int32)), (.int (153 : Int32)), (.int (409 : Int32)), (.int (921 : Int32)), (.int (1945 : Int32)), (.int (2073 : Int32)), (.int (0 : Int32)), (.int (0 : Int32)), (.int (0 : Int32)), (.int (0 : Int32)), (.int (0 : Int32)), (.int (0 : Int32)), (.int (0 : Int32)), (.int (0 : Int32)), (.int (0 : Int32)), (.int (0 : Int32)), (.int (0 : Int32)), (.int (0 : Int32)), (.int (0 : Int32))] (.int (0 : Int32)) := Arv.set Ar_b77 q_b77 S_b77 N_b77 H_b77 G_b77 rfl W100 11 rfl (Nat.le_of_ble_eq_true rfl)
  obtain ⟨L100a, X100a, N100a⟩ : ∃ L, Stand p l e room_1 s m #[(.int p1), (.int p2)] below meth c T100 L 2 50 ∧ Fr n0 L := ⟨_, X100, N100⟩
  have pre101 : ∀ t, Steps p.tables e below (T100.setTop (mkF m 247 #[.val (.int p1), .val (.int p2), .val (.ref b1), .unset, .unset, .unset, .unset] [(.ref b77)])) t → Steps p.tables e below (s₁.setTop (entryFrame m #[(.int p1), (.int p2)] maxLocals)) t := by
    intro t k
    refine pre99 _ ?_
    show Steps p.tables e below (T98.setTop (mkF m 240 #[.val (.int p1), .val (.int p2), .val (.ref b1), .unset, .unset, .unset, .unset] [(.ref b77)])) _
    refine XS.dup X98a.here hx rfl (hb hby at_240) rfl rfl ?_
    show Steps p.tables e below (T98.setTop (mkF m 241 #[.val (.int p1), .val (.int p2), .val (.ref b1), .unset, .unset, .unset, .unset] [(.ref b77), (.ref b77)])) _
    refine XS.bipush X98a.here hx rfl (hb hby at_241) ?_
    show Steps p.tables e below (T98.setTop (mkF m 243 #[.val (.int p1), .val (.int p2), .val (.ref b1), .unset, .unset, .unset, .unset] [(.int (11 : Int32)), (.ref b77), (.ref b77)])) _
    refine XS.sipush X98a.here hx rfl (hb hby at_243) ?_
    show Steps p.tables e below (T98.setTop (mkF m 246 #[.val (.int p1), .val (.int p2), .val (.ref b1), .unset, .unset, .unset, .unset] [(.int (2073 : Int32)), (.int (11 : Int32)), (.ref b77), (.ref b77)])) _
    refine st100 _ ?_
    exact k
  clear X98a e98 st100 Z98 N98a O98o N100 X100 W100 Ar_b77 q_b77 S_b77 N_b77 H_b77 G_b77 hin246 cl_b77 pre99
  obtain ⟨cl_b77, Ar_b77, q_b77, S_b77, N_b77, H_b77, G_b77⟩ := V_b77
  have hin253 : ¬ ((12 : Int32) < 0 ∨ cl_b77.slots.size ≤ ((12 : Int32)).toNatClampNeg) := inb_of S_b77 ⟨by decide, by decide⟩
  obtain ⟨T102, h102, X102, e102, W102, st102⟩ := stI X100a hx hZ e100 Ar_b77 (j := (12 : Int32)) hin253 (g := (mkF m 253 #[.val (.int p1), .val (.int p2), .val (.ref b1), .unset, .unset, .unset, .unset] [(.int (6169 : Int32)), (.int (12 : Int32)), (.ref b77), (.ref b77)])) rfl rfl (hb hby at_253)
  replace V_b1 := V_b1.other W102 ne_b1_b77
  have Z102 : n0 ≤ h102.size := Nat.le_trans Z100 (Keep.of_wr W102).1
  have N102 := Fr.snoc X102 N100a g_b77
  have O102o := O100o.wr W102 g_b77
  have V_b77 : Arv Z h102 b77 k77 .int (25 : Int32) [(.int (1 : Int32)), (.int (3 : Int32)), (.int (5 : Int32)), (.int (9 : Int32)), (.int (25 : Int32)), (.int (57 : Int32)), (.int (121 : Int32)), (.int (153 : Int32)), (.int (409 : Int32)), (.int (921 : Int32)), (.int (1945 : Int32)), (.int (2073 : Int32)), (.int (6169 : Int32)), (.int (0 : Int32)), (.int (0 : Int32)), (.int (0 : Int32)), (.int (0 : Int32)), (.int (0 : Int32)), (.int (0 : Int32)), (.int (0 : Int32)), (.int (0 : Int32)), (.int (0 : Int32)), (.int (0 : Int32)), (.int (0 : Int32)), (.int (0 : Int32))] (.int (0 : Int32)) := Arv.set Ar_b77 q_b77 S_b77 N_b77 H_b77 G_b77 rfl W102 12 rfl (Nat.le_of_ble_eq_true rfl)
  obtain ⟨L102a, X102a, N102a⟩ : ∃ L, Stand p l e room_1 s m #[(.int p1), (.int p2)] below meth c T102 L 2 50 ∧ Fr n0 L := ⟨_, X102, N102⟩
  have pre103 : ∀ t, Steps p.tables e below (T102.setTop (mkF m 254 #[.val (.int p1), .val (.int p2), .val (.ref b1), .unset, .unset, .unset, .unset] [(.ref b77)])) t → Steps p.tables e below (s₁.setTop (entryFrame m #[(.int p1), (.int p2)] maxLocals)) t := by
    intro t k
    refine pre101 _ ?_
    show Steps p.tables e below (T100.setTop (mkF m 247 #[.val (.int p1), .val (.int p2), .val (.ref b1), .unset, .unset, .unset, .unset] [(.ref b77)])) _
    refine XS.dup X100a.here hx rfl (hb hby at_247) rfl rfl ?_
    show Steps p.tables e below (T100.setTop (mkF m 248 #[.val (.int p1), .val (.int p2), .val (.ref b1), .unset, .unset, .unset, .unset] [(.ref b77), (.ref b77)])) _
    refine XS.bipush X100a.here hx rfl (hb hby at_248) ?_
    show Steps p.tables e below (T100.setTop (mkF m 250 #[.val (.int p1), .val (.int p2), .val (.ref b1), .unset, .unset, .unset, .unset] [(.int (12 : Int32)), (.ref b77), (.ref b77)])) _
    refine XS.sipush X100a.here hx rfl (hb hby at_250) ?_
    show Steps p.tables e below (T100.setTop (mkF m 253 #[.val (.int p1), .val (.int p2), .val (.ref b1), .unset, .unset, .unset, .unset] [(.int (6169 : Int32)), (.int (12 : Int32)), (.ref b77), (.ref b77)])) _
    refine st102 _ ?_
    exact k
  clear X100a e100 st102 Z100 N100a O100o N102 X102 W102 Ar_b77 q_b77 S_b77 N_b77 H_b77 G_b77 hin253 cl_b77 pre101
  obtain ⟨cl_b77, Ar_b77, q_b77, S_b77, N_b77, H_b77, G_b77⟩ := V_b77
  have hin260 : ¬ ((13 : Int32) < 0 ∨ cl_b77.slots.size ≤ ((13 : Int32)).toNatClampNeg) := inb_of S_b77 ⟨by decide, by decide⟩
  obtain ⟨T104, h104, X104, e104, W104, st104⟩ := stI X102a hx hZ e102 Ar_b77 (j := (13 : Int32)) hin260 (g := (mkF m 260 #[.val (.int p1), .val (.int p2), .val (.ref b1), .unset, .unset, .unset, .unset] [(.int (14361 : Int32)), (.int (13 : Int32)), (.ref b77), (.ref b77)])) rfl rfl (hb hby at_260)
  replace V_b1 := V_b1.other W104 ne_b1_b77
  have Z104 : n0 ≤ h104.size := Nat.le_trans Z102 (Keep.of_wr W104).1
  have N104 := Fr.snoc X104 N102a g_b77
  have O104o := O102o.wr W104 g_b77
  have V_b77 : Arv Z h104 b77 k77 .int (25 : Int32) [(.int (1 : Int32)), (.int (3 : Int32)), (.int (5 : Int32)), (.int (9 : Int32)), (.int (25 : Int32)), (.int (57 : Int32)), (.int (121 : Int32)), (.int (153 : Int32)), (.int (409 : Int32)), (.int (921 : Int32)), (.int (1945 : Int32)), (.int (2073 : Int32)), (.int (6169 : Int32)), (.int (14361 : Int32)), (.int (0 : Int32)), (.int (0 : Int32)), (.int (0 : Int32)), (.int (0 : Int32)), (.int (0 : Int32)), (.int (0 : Int32)), (.int (0 : Int32)), (.int (0 : Int32)), (.int (0 : Int32)), (.int (0 : Int32)), (.int (0 : Int32))] (.int (0 : Int32)) := Arv.set Ar_b77 q_b77 S_b77 N_b77 H_b77 G_b77 rfl W104 13 rfl (Nat.le_of_ble_eq_true rfl)
  obtain ⟨L104a, X104a, N104a⟩ : ∃ L, Stand p l e room_1 s m #[(.int p1), (.int p2)] below meth c T104 L 2 50 ∧ Fr n0 L := ⟨_, X104, N104⟩
  have pre105 : ∀ t, Steps p.tables e below (T104.setTop (mkF m 261 #[.val (.int p1), .val (.int p2), .val (.ref b1), .unset, .unset, .unset, .unset] [(.ref b77)])) t → Steps p.tables e below (s₁.setTop (entryFrame m #[(.int p1), (.int p2)] maxLocals)) t := by
    intro t k
    refine pre103 _ ?_
    show Steps p.tables e below (T102.setTop (mkF m 254 #[.val (.int p1), .val (.int p2), .val (.ref b1), .unset, .unset, .unset, .unset] [(.ref b77)])) _
    refine XS.dup X102a.here hx rfl (hb hby at_254) rfl rfl ?_
    show Steps p.tables e below (T102.setTop (mkF m 255 #[.val (.int p1), .val (.int p2), .val (.ref b1), .unset, .unset, .unset, .unset] [(.ref b77), (.ref b77)])) _
    refine XS.bipush X102a.here hx rfl (hb hby at_255) ?_
    show Steps p.tables e below (T102.setTop (mkF m 257 #[.val (.int p1), .val (.int p2), .val (.ref b1), .unset, .unset, .unset, .unset] [(.int (13 : Int32)), (.ref b77), (.ref b77)])) _
    refine XS.sipush X102a.here hx rfl (hb hby at_257) ?_
    show Steps p.tables e below (T102.setTop (mkF m 260 #[.val (.int p1), .val (.int p2), .val (.ref b1), .unset, .unset, .unset, .unset] [(.int (14361 : Int32)), (.int (13 : Int32)), (.ref b77), (.ref b77)])) _
    refine st104 _ ?_
    exact k
  clear X102a e102 st104 Z102 N102a O102o N104 X104 W104 Ar_b77 q_b77 S_b77 N_b77 H_b77 G_b77 hin260 cl_b77 pre103
  obtain ⟨cl_b77, Ar_b77, q_b77, S_b77, N_b77, H_b77, G_b77⟩ := V_b77
  have hin267 : ¬ ((14 : Int32) < 0 ∨ cl_b77.slots.size ≤ ((14 : Int32)).toNatClampNeg) := inb_of S_b77 ⟨by decide, by decide⟩
  obtain ⟨T106, h106, X106, e106, W106, st106⟩ := stI X104a hx hZ e104 Ar_b77 (j := (14 : Int32)) hin267 (g := (mkF m 267 #[.val (.int p1), .val (.int p2), .val (.ref b1), .unset, .unset, .unset, .unset] [(.int (30745 : Int32)), (.int (14 : Int32)), (.ref b77), (.ref b77)])) rfl rfl (hb hby at_267)
  replace V_b1 := V_b1.other W106 ne_b1_b77
  have Z106 : n0 ≤ h106.size := Nat.le_trans Z104 (Keep.of_wr W106).1
  have N106 := Fr.snoc X106 N104a g_b77
  have O106o := O104o.wr W106 g_b77
  have V_b77 : Arv Z h106 b77 k77 .int (25 : Int32) [(.int (1 : Int32)), (.int (3 : Int32)), (.int (5 : Int32)), (.int (9 : Int32)), (.int (25 : Int32)), (.int (57 : Int32)), (.int (121 : Int32)), (.int (153 : Int32)), (.int (409 : Int32)), (.int (921 : Int32)), (.int (1945 : Int32)), (.int (2073 : Int32)), (.int (6169 : Int32)), (.int (14361 : Int32)), (.int (30745 : Int32)), (.int (0 : Int32)), (.int (0 : Int32)), (.int (0 : Int32)), (.int (0 : Int32)), (.int (0 : Int32)), (.int (0 : Int32)), (.int (0 : Int32)), (.int (0 : Int32)), (.int (0 : Int32)), (.int (0 : Int32))] (.int (0 : Int32)) := Arv.set Ar_b77 q_b77 S_b77 N_b77 H_b77 G_b77 rfl W106 14 rfl (Nat.le_of_ble_eq_true rfl)
  obtain ⟨L106a, X106a, N106a⟩ : ∃ L, Stand p l e room_1 s m #[(.int p1), (.int p2)] below meth c T106 L 2 50 ∧ Fr n0 L := ⟨_, X106, N106⟩
  have pre107 : ∀ t, Steps p.tables e below (T106.setTop (mkF m 268 #[.val (.int p1), .val (.int p2), .val (.ref b1), .unset, .unset, .unset, .unset] [(.ref b77)])) t → Steps p.tables e below (s₁.setTop (entryFrame m #[(.int p1), (.int p2)] maxLocals)) t := by
    intro t k
    refine pre105 _ ?_
    show Steps p.tables e below (T104.setTop (mkF m 261 #[.val (.int p1), .val (.int p2), .val (.ref b1), .unset, .unset, .unset, .unset] [(.ref b77)])) _
    refine XS.dup X104a.here hx rfl (hb hby at_261) rfl rfl ?_
    show Steps p.tables e below (T104.setTop (mkF m 262 #[.val (.int p1), .val (.int p2), .val (.ref b1), .unset, .unset, .unset, .unset] [(.ref b77), (.ref b77)])) _
    refine XS.bipush X104a.here hx rfl (hb hby at_262) ?_
    show Steps p.tables e below (T104.setTop (mkF m 264 #[.val (.int p1), .val (.int p2), .val (.ref b1), .unset, .unset, .unset, .unset] [(.int (14 : Int32)), (.ref b77), (.ref b77)])) _
    refine XS.sipush X104a.here hx rfl (hb hby at_264) ?_
    show Steps p.tables e below (T104.setTop (mkF m 267 #[.val (.int p1), .val (.int p2), .val (.ref b1), .unset, .unset, .unset, .unset] [(.int (30745 : Int32)), (.int (14 : Int32)), (.ref b77), (.ref b77)])) _
    refine st106 _ ?_
    exact k
  clear X104a e104 st106 Z104 N104a O104o N106 X106 W106 Ar_b77 q_b77 S_b77 N_b77 H_b77 G_b77 hin267 cl_b77 pre105
  obtain ⟨cl_b77, Ar_b77, q_b77, S_b77, N_b77, H_b77, G_b77⟩ := V_b77
  have hin273 : ¬ ((15 : Int32) < 0 ∨ cl_b77.slots.size ≤ ((15 : Int32)).toNatClampNeg) := inb_of S_b77 ⟨by decide, by decide⟩
  obtain ⟨T108, h108, X108, e108, W108, st108⟩ := stI X106a hx hZ e106 Ar_b77 (j := (15 : Int32)) hin273 (g := (mkF m 273 #[.val (.int p1), .val (.int p2), .val (.ref b1), .unset, .unset, .unset, .unset] [(.int (63513 : Int32)), (.int (15 : Int32)), (.ref b77), (.ref b77)])) rfl rfl (hb hby at_273)
  replace V_b1 := V_b1.other W108 ne_b1_b77
  have Z108 : n0 ≤ h108.size := Nat.le_trans Z106 (Keep.of_wr W108).1
  have N108 := Fr.snoc X108 N106a g_b77
  have O108o := O106o.wr W108 g_b77
  have V_b77 : Arv Z h108 b77 k77 .int (25 : Int32) [(.int (1 : Int32)), (.int (3 : Int32)), (.int (5 : Int32)), (.int (9 : Int32)), (.int (25 : Int32)), (.int (57 : Int32)), (.int (121 : Int32)), (.int (153 : Int32)), (.int (409 : Int32)), (.int (921 : Int32)), (.int (1945 : Int32)), (.int (2073 : Int32)), (.int (6169 : Int32)), (.int (14361 : Int32)), (.int (30745 : Int32)), (.int (63513 : Int32)), (.int (0 : Int32)), (.int (0 : Int32)), (.int (0 : Int32)), (.int (0 : Int32)), (.int (0 : Int32)), (.int (0 : Int32)), (.int (0 : Int32)), (.int (0 : Int32)), (.int (0 : Int32))] (.int (0 : Int32)) := Arv.set Ar_b77 q_b77 S_b77 N_b77 H_b77 G_b77 rfl W108 15 rfl (Nat.le_of_ble_eq_true rfl)
  obtain ⟨L108a, X108a, N108a⟩ : ∃ L, Stand p l e room_1 s m #[(.int p1), (.int p2)] below meth c T108 L 2 50 ∧ Fr n0 L := ⟨_, X108, N108⟩
  have pre109 : ∀ t, Steps p.tables e below (T108.setTop (mkF m 274 #[.val (.int p1), .val (.int p2), .val (.ref b1), .unset, .unset, .unset, .unset] [(.ref b77)])) t → Steps p.tables e below (s₁.setTop (entryFrame m #[(.int p1), (.int p2)] maxLocals)) t := by
    intro t k
    refine pre107 _ ?_
    show Steps p.tables e below (T106.setTop (mkF m 268 #[.val (.int p1), .val (.int p2), .val (.ref b1), .unset, .unset, .unset, .unset] [(.ref b77)])) _
    refine XS.dup X106a.here hx rfl (hb hby at_268) rfl rfl ?_
    show Steps p.tables e below (T106.setTop (mkF m 269 #[.val (.int p1), .val (.int p2), .val (.ref b1), .unset, .unset, .unset, .unset] [(.ref b77), (.ref b77)])) _
    refine XS.bipush X106a.here hx rfl (hb hby at_269) ?_
    show Steps p.tables e below (T106.setTop (mkF m 271 #[.val (.int p1), .val (.int p2), .val (.ref b1), .unset, .unset, .unset, .unset] [(.int (15 : Int32)), (.ref b77), (.ref b77)])) _
    refine X106a.ldcI hx hown (mvT hZ (hw _ (List.mem_of_getElem? (i := 55) rfl))) rfl (hb hby at_271) ?_
    show Steps p.tables e below (T106.setTop (mkF m 273 #[.val (.int p1), .val (.int p2), .val (.ref b1), .unset, .unset, .unset, .unset] [(.int (63513 : Int32)), (.int (15 : Int32)), (.ref b77), (.ref b77)])) _
    refine st108 _ ?_
    exact k
  clear X106a e106 st108 Z106 N106a O106o N108 X108 W108 Ar_b77 q_b77 S_b77 N_b77 H_b77 G_b77 hin273 cl_b77 pre107
  obtain ⟨cl_b77, Ar_b77, q_b77, S_b77, N_b77, H_b77, G_b77⟩ := V_b77
  have hin279 : ¬ ((16 : Int32) < 0 ∨ cl_b77.slots.size ≤ ((16 : Int32)).toNatClampNeg) := inb_of S_b77 ⟨by decide, by decide⟩
  obtain ⟨T110, h110, X110, e110, W110, st110⟩ := stI X108a hx hZ e108 Ar_b77 (j := (16 : Int32)) hin279 (g := (mkF m 279 #[.val (.int p1), .val (.int p2), .val (.ref b1), .unset, .unset, .unset, .unset] [(.int (67609 : Int32)), (.int (16 : Int32)), (.ref b77), (.ref b77)])) rfl rfl (hb hby at_279)
  replace V_b1 := V_b1.other W110 ne_b1_b77
  have Z110 : n0 ≤ h110.size := Nat.le_trans Z108 (Keep.of_wr W110).1
  have N110 := Fr.snoc X110 N108a g_b77
  have O110o := O108o.wr W110 g_b77
  have V_b77 : Arv Z h110 b77 k77 .int (25 : Int32) [(.int (1 : Int32)), (.int (3 : Int32)), (.int (5 : Int32)), (.int (9 : Int32)), (.int (25 : Int32)), (.int (57 : Int32)), (.int (121 : Int32)), (.int (153 : Int32)), (.int (409 : Int32)), (.int (921 : Int32)), (.int (1945 : Int32)), (.int (2073 : Int32)), (.int (6169 : Int32)), (.int (14361 : Int32)), (.int (30745 : Int32)), (.int (63513 : Int32)), (.int (67609 : Int32)), (.int (0 : Int32)), (.int (0 : Int32)), (.int (0 : Int32)), (.int (0 : Int32)), (.int (0 : Int32)), (.int (0 : Int32)), (.int (0 : Int32)), (.int (0 : Int32))] (.int (0 : Int32)) := Arv.set Ar_b77 q_b77 S_b77 N_b77 H_b77 G_b77 rfl W110 16 rfl (Nat.le_of_ble_eq_true rfl)
  obtain ⟨L110a, X110a, N110a⟩ : ∃ L, Stand p l e room_1 s m #[(.int p1), (.int p2)] below meth c T110 L 2 50 ∧ Fr n0 L := ⟨_, X110, N110⟩
  have pre111 : ∀ t, Steps p.tables e below (T110.setTop (mkF m 280 #[.val (.int p1), .val (.int p2), .val (.ref b1), .unset, .unset, .unset, .unset] [(.ref b77)])) t → Steps p.tables e below (s₁.setTop (entryFrame m #[(.int p1), (.int p2)] maxLocals)) t := by
    intro t k
    refine pre109 _ ?_
    show Steps p.tables e below (T108.setTop (mkF m 274 #[.val (.int p1), .val (.int p2), .val (.ref b1), .unset, .unset, .unset, .unset] [(.ref b77)])) _
    refine XS.dup X108a.here hx rfl (hb hby at_274) rfl rfl ?_
    show Steps p.tables e below (T108.setTop (mkF m 275 #[.val (.int p1), .val (.int p2), .val (.ref b1), .unset, .unset, .unset, .unset] [(.ref b77), (.ref b77)])) _
    refine XS.bipush X108a.here hx rfl (hb hby at_275) ?_
    show Steps p.tables e below (T108.setTop (mkF m 277 #[.val (.int p1), .val (.int p2), .val (.ref b1), .unset, .unset, .unset, .unset] [(.int (16 : Int32)), (.ref b77), (.ref b77)])) _
    refine X108a.ldcI hx hown (mvT hZ (hw _ (List.mem_of_getElem? (i := 56) rfl))) rfl (hb hby at_277) ?_
    show Steps p.tables e below (T108.setTop (mkF m 279 #[.val (.int p1), .val (.int p2), .val (.ref b1), .unset, .unset, .unset, .unset] [(.int (67609 : Int32)), (.int (16 : Int32)), (.ref b77), (.ref b77)])) _
    refine st110 _ ?_
    exact k
  clear X108a e108 st110 Z108 N108a O108o N110 X110 W110 Ar_b77 q_b77 S_b77 N_b77 H_b77 G_b77 hin279 cl_b77 pre109
  obtain ⟨cl_b77, Ar_b77, q_b77, S_b77, N_b77, H_b77, G_b77⟩ := V_b77
  have hin285 : ¬ ((17 : Int32) < 0 ∨ cl_b77.slots.size ≤ ((17 : Int32)).toNatClampNeg) := inb_of S_b77 ⟨by decide, by decide⟩
  obtain ⟨T112, h112, X112, e112, W112, st112⟩ := stI X110a hx hZ e110 Ar_b77 (j := (17 : Int32)) hin285 (g := (mkF m 285 #[.val (.int p1), .val (.int p2), .val (.ref b1), .unset, .unset, .unset, .unset] [(.int (131073 : Int32)), (.int (17 : Int32)), (.ref b77), (.ref b77)])) rfl rfl (hb hby at_285)
  replace V_b1 := V_b1.other W112 ne_b1_b77
  have Z112 : n0 ≤ h112.size := Nat.le_trans Z110 (Keep.of_wr W112).1
  have N112 := Fr.snoc X112 N110a g_b77
  have O112o := O110o.wr W112 g_b77
  have V_b77 : Arv Z h112 b77 k77 .int (25 : Int32) [(.int (1 : Int32)), (.int (3 : Int32)), (.int (5 : Int32)), (.int (9 : Int32)), (.int (25 : Int32)), (.int (57 : Int32)), (.int (121 : Int32)), (.int (153 : Int32)), (.int (409 : Int32)), (.int (921 : Int32)), (.int (1945 : Int32)), (.int (2073 : Int32)), (.int (6169 : Int32)), (.int (14361 : Int32)), (.int (30745 : Int32)), (.int (63513 : Int32)), (.int (67609 : Int32)), (.int (131073 : Int32)), (.int (0 : Int32)), (.int (0 : Int32)), (.int (0 : Int32)), (.int (0 : Int32)), (.int (0 : Int32)), (.int (0 : Int32)), (.int (0 : Int32))] (.int (0 : Int32)) := Arv.set Ar_b77 q_b77 S_b77 N_b77 H_b77 G_b77 rfl W112 17 rfl (Nat.le_of_ble_eq_true rfl)
  obtain ⟨L112a, X112a, N112a⟩ : ∃ L, Stand p l e room_1 s m #[(.int p1), (.int p2)] below meth c T112 L 2 50 ∧ Fr n0 L := ⟨_, X112, N112⟩
  have pre113 : ∀ t, Steps p.tables e below (T112.setTop (mkF m 286 #[.val (.int p1), .val (.int p2), .val (.ref b1), .unset, .unset, .unset, .unset] [(.ref b77)])) t → Steps p.tables e below (s₁.setTop (entryFrame m #[(.int p1), (.int p2)] maxLocals)) t := by
    intro t k
    refine pre111 _ ?_
    show Steps p.tables e below (T110.setTop (mkF m 280 #[.val (.int p1), .val (.int p2), .val (.ref b1), .unset, .unset, .unset, .unset] [(.ref b77)])) _
    refine XS.dup X110a.here hx rfl (hb hby at_280) rfl rfl ?_
    show Steps p.tables e below (T110.setTop (mkF m 281 #[.val (.int p1), .val (.int p2), .val (.ref b1), .unset, .unset, .unset, .unset] [(.ref b77), (.ref b77)])) _
    refine XS.bipush X110a.here hx rfl (hb hby at_281) ?_
    show Steps p.tables e below (T110.setTop (mkF m 283 #[.val (.int p1), .val (.int p2), .val (.ref b1), .unset, .unset, .unset, .unset] [(.int (17 : Int32)), (.ref b77), (.ref b77)])) _
    refine X110a.ldcI hx hown (mvT hZ (hw _ (List.mem_of_getElem? (i := 57) rfl))) rfl (hb hby at_283) ?_
    show Steps p.tables e below (T110.setTop (mkF m 285 #[.val (.int p1), .val (.int p2), .val (.ref b1), .unset, .unset, .unset, .unset] [(.int (131073 : Int32)), (.int (17 : Int32)), (.ref b77), (.ref b77)])) _
    refine st112 _ ?_
    exact k
  clear X110a e110 st112 Z110 N110a O110o N112 X112 W112 Ar_b77 q_b77 S_b77 N_b77 H_b77 G_b77 hin285 cl_b77 pre111
  obtain ⟨cl_b77, Ar_b77, q_b77, S_b77, N_b77, H_b77, G_b77⟩ := V_b77
  have hin291 : ¬ ((18 : Int32) < 0 ∨ cl_b77.slots.size ≤ ((18 : Int32)).toNatClampNeg) := inb_of S_b77 ⟨by decide, by decide⟩
  obtain ⟨T114, h114, X114, e114, W114, st114⟩ := stI X112a hx hZ e112 Ar_b77 (j := (18 : Int32)) hin291 (g := (mkF m 291 #[.val (.int p1), .val (.int p2), .val (.ref b1), .unset, .unset, .unset, .unset] [(.int (262145 : Int32)), (.int (18 : Int32)), (.ref b77), (.ref b77)])) rfl rfl (hb hby at_291)
  replace V_b1 := V_b1.other W114 ne_b1_b77
  have Z114 : n0 ≤ h114.size := Nat.le_trans Z112 (Keep.of_wr W114).1
  have N114 := Fr.snoc X114 N112a g_b77
  have O114o := O112o.wr W114 g_b77
  have V_b77 : Arv Z h114 b77 k77 .int (25 : Int32) [(.int (1 : Int32)), (.int (3 : Int32)), (.int (5 : Int32)), (.int (9 : Int32)), (.int (25 : Int32)), (.int (57 : Int32)), (.int (121 : Int32)), (.int (153 : Int32)), (.int (409 : Int32)), (.int (921 : Int32)), (.int (1945 : Int32)), (.int (2073 : Int32)), (.int (6169 : Int32)), (.int (14361 : Int32)), (.int (30745 : Int32)), (.int (63513 : Int32)), (.int (67609 : Int32)), (.int (131073 : Int32)), (.int (262145 : Int32)), (.int (0 : Int32)), (.int (0 : Int32)), (.int (0 : Int32)), (.int (0 : Int32)), (.int (0 : Int32)), (.int (0 : Int32))] (.int (0 : Int32)) := Arv.set Ar_b77 q_b77 S_b77 N_b77 H_b77 G_b77 rfl W114 18 rfl (Nat.le_of_ble_eq_true rfl)
  obtain ⟨L114a, X114a, N114a⟩ : ∃ L, Stand p l e room_1 s m #[(.int p1), (.int p2)] below meth c T114 L 2 50 ∧ Fr n0 L := ⟨_, X114, N114⟩
  have pre115 : ∀ t, Steps p.tables e below (T114.setTop (mkF m 292 #[.val (.int p1), .val (.int p2), .val (.ref b1), .unset, .unset, .unset, .unset] [(.ref b77)])) t → Steps p.tables e below (s₁.setTop (entryFrame m #[(.int p1), (.int p2)] maxLocals)) t := by
    intro t k
    refine pre113 _ ?_
    show Steps p.tables e below (T112.setTop (mkF m 286 #[.val (.int p1), .val (.int p2), .val (.ref b1), .unset, .unset, .unset, .unset] [(.ref b77)])) _
    refine XS.dup X112a.here hx rfl (hb hby at_286) rfl rfl ?_
    show Steps p.tables e below (T112.setTop (mkF m 287 #[.val (.int p1), .val (.int p2), .val (.ref b1), .unset, .unset, .unset, .unset] [(.ref b77), (.ref b77)])) _
    refine XS.bipush X112a.here hx rfl (hb hby at_287) ?_
    show Steps p.tables e below (T112.setTop (mkF m 289 #[.val (.int p1), .val (.int p2), .val (.ref b1), .unset, .unset, .unset, .unset] [(.int (18 : Int32)), (.ref b77), (.ref b77)])) _
    refine X112a.ldcI hx hown (mvT hZ (hw _ (List.mem_of_getElem? (i := 58) rfl))) rfl (hb hby at_289) ?_
    show Steps p.tables e below (T112.setTop (mkF m 291 #[.val (.int p1), .val (.int p2), .val (.ref b1), .unset, .unset, .unset, .unset] [(.int (262145 : Int32)), (.int (18 : Int32)), (.ref b77), (.ref b77)])) _
    refine st114 _ ?_
    exact k
  clear X112a e112 st114 Z112 N112a O112o N114 X114 W114 Ar_b77 q_b77 S_b77 N_b77 H_b77 G_b77 hin291 cl_b77 pre113
  obtain ⟨cl_b77, Ar_b77, q_b77, S_b77, N_b77, H_b77, G_b77⟩ := V_b77
  have hin297 : ¬ ((19 : Int32) < 0 ∨ cl_b77.slots.size ≤ ((19 : Int32)).toNatClampNeg) := inb_of S_b77 ⟨by decide, by decide⟩
  obtain ⟨T116, h116, X116, e116, W116, st116⟩ := stI X114a hx hZ e114 Ar_b77 (j := (19 : Int32)) hin297 (g := (mkF m 297 #[.val (.int p1), .val (.int p2), .val (.ref b1), .unset, .unset, .unset, .unset] [(.int (524289 : Int32)), (.int (19 : Int32)), (.ref b77), (.ref b77)])) rfl rfl (hb hby at_297)
  replace V_b1 := V_b1.other W116 ne_b1_b77
  have Z116 : n0 ≤ h116.size := Nat.le_trans Z114 (Keep.of_wr W116).1
  have N116 := Fr.snoc X116 N114a g_b77
  have O116o := O114o.wr W116 g_b77
  have V_b77 : Arv Z h116 b77 k77 .int (25 : Int32) [(.int (1 : Int32)), (.int (3 : Int32)), (.int (5 : Int32)), (.int (9 : Int32)), (.int (25 : Int32)), (.int (57 : Int32)), (.int (121 : Int32)), (.int (153 : Int32)), (.int (409 : Int32)), (.int (921 : Int32)), (.int (1945 : Int32)), (.int (2073 : Int32)), (.int (6169 : Int32)), (.int (14361 : Int32)), (.int (30745 : Int32)), (.int (63513 : Int32)), (.int (67609 : Int32)), (.int (131073 : Int32)), (.int (262145 : Int32)), (.int (524289 : Int32)), (.int (0 : Int32)), (.int (0 : Int32)), (.int (0 : Int32)), (.int (0 : Int32)), (.int (0 : Int32))] (.int (0 : Int32)) := Arv.set Ar_b77 q_b77 S_b77 N_b77 H_b77 G_b77 rfl W116 19 rfl (Nat.le_of_ble_eq_true rfl)
  obtain ⟨L116a, X116a, N116a⟩ : ∃ L, Stand p l e room_1 s m #[(.int p1), (.int p2)] below meth c T116 L 2 50 ∧ Fr n0 L := ⟨_, X116, N116⟩
  have pre117 : ∀ t, Steps p.tables e below (T116.setTop (mkF m 298 #[.val (.int p1), .val (.int p2), .val (.ref b1), .unset, .unset, .unset, .unset] [(.ref b77)])) t → Steps p.tables e below (s₁.setTop (entryFrame m #[(.int p1), (.int p2)] maxLocals)) t := by
    intro t k
    refine pre115 _ ?_
    show Steps p.tables e below (T114.setTop (mkF m 292 #[.val (.int p1), .val (.int p2), .val (.ref b1), .unset, .unset, .unset, .unset] [(.ref b77)])) _
    refine XS.dup X114a.here hx rfl (hb hby at_292) rfl rfl ?_
    show Steps p.tables e below (T114.setTop (mkF m 293 #[.val (.int p1), .val (.int p2), .val (.ref b1), .unset, .unset, .unset, .unset] [(.ref b77), (.ref b77)])) _
    refine XS.bipush X114a.here hx rfl (hb hby at_293) ?_
    show Steps p.tables e below (T114.setTop (mkF m 295 #[.val (.int p1), .val (.int p2), .val (.ref b1), .unset, .unset, .unset, .unset] [(.int (19 : Int32)), (.ref b77), (.ref b77)])) _
    refine X114a.ldcI hx hown (mvT hZ (hw _ (List.mem_of_getElem? (i := 59) rfl))) rfl (hb hby at_295) ?_
    show Steps p.tables e below (T114.setTop (mkF m 297 #[.val (.int p1), .val (.int p2), .val (.ref b1), .unset, .unset, .unset, .unset] [(.int (524289 : Int32)), (.int (19 : Int32)), (.ref b77), (.ref b77)])) _
    refine st116 _ ?_
    exact k
  clear X114a e114 st116 Z114 N114a O114o N116 X116 W116 Ar_b77 q_b77 S_b77 N_b77 H_b77 G_b77 hin297 cl_b77 pre115
  obtain ⟨cl_b77, Ar_b77, q_b77, S_b77, N_b77, H_b77, G_b77⟩ := V_b77
  have hin303 : ¬ ((20 : Int32) < 0 ∨ cl_b77.slots.size ≤ ((20 : Int32)).toNatClampNeg) := inb_of S_b77 ⟨by decide, by decide⟩
  obtain ⟨T118, h118, X118, e118, W118, st118⟩ := stI X116a hx hZ e116 Ar_b77 (j := (20 : Int32)) hin303 (g := (mkF m 303 #[.val (.int p1), .val (.int p2), .val (.ref b1), .unset, .unset, .unset, .unset] [(.int (1048577 : Int32)), (.int (20 : Int32)), (.ref b77), (.ref b77)])) rfl rfl (hb hby at_303)
  replace V_b1 := V_b1.other W118 ne_b1_b77
  have Z118 : n0 ≤ h118.size := Nat.le_trans Z116 (Keep.of_wr W118).1
  have N118 := Fr.snoc X118 N116a g_b77
  have O118o := O116o.wr W118 g_b77
  have V_b77 : Arv Z h118 b77 k77 .int (25 : Int32) [(.int (1 : Int32)), (.int (3 : Int32)), (.int (5 : Int32)), (.int (9 : Int32)), (.int (25 : Int32)), (.int (57 : Int32)), (.int (121 : Int32)), (.int (153 : Int32)), (.int (409 : Int32)), (.int (921 : Int32)), (.int (1945 : Int32)), (.int (2073 : Int32)), (.int (6169 : Int32)), (.int (14361 : Int32)), (.int (30745 : Int32)), (.int (63513 : Int32)), (.int (67609 : Int32)), (.int (131073 : Int32)), (.int (262145 : Int32)), (.int (524289 : Int32)), (.int (1048577 : Int32)), (.int (0 : Int32)), (.int (0 : Int32)), (.int (0 : Int32)), (.int (0 : Int32))] (.int (0 : Int32)) := Arv.set Ar_b77 q_b77 S_b77 N_b77 H_b77 G_b77 rfl W118 20 rfl (Nat.le_of_ble_eq_true rfl)
  obtain ⟨L118a, X118a, N118a⟩ : ∃ L, Stand p l e room_1 s m #[(.int p1), (.int p2)] below meth c T118 L 2 50 ∧ Fr n0 L := ⟨_, X118, N118⟩
  have pre119 : ∀ t, Steps p.tables e below (T118.setTop (mkF m 304 #[.val (.int p1), .val (.int p2), .val (.ref b1), .unset, .unset, .unset, .unset] [(.ref b77)])) t → Steps p.tables e below (s₁.setTop (entryFrame m #[(.int p1), (.int p2)] maxLocals)) t := by
    intro t k
    refine pre117 _ ?_
    show Steps p.tables e below (T116.setTop (mkF m 298 #[.val (.int p1), .val (.int p2), .val (.ref b1), .unset, .unset, .unset, .unset] [(.ref b77)])) _
    refine XS.dup X116a.here hx rfl (hb hby at_298) rfl rfl ?_
    show Steps p.tables e below (T116.setTop (mkF m 299 #[.val (.int p1), .val (.int p2), .val (.ref b1), .unset, .unset, .unset, .unset] [(.ref b77), (.ref b77)])) _
    refine XS.bipush X116a.here hx rfl (hb hby at_299) ?_
    show Steps p.tables e below (T116.setTop (mkF m 301 #[.val (.int p1), .val (.int p2), .val (.ref b1), .unset, .unset, .unset, .unset] [(.int (20 : Int32)), (.ref b77), (.ref b77)])) _
    refine X116a.ldcI hx hown (mvT hZ (hw _ (List.mem_of_getElem? (i := 60) rfl))) rfl (hb hby at_301) ?_
    show Steps p.tables e below (T116.setTop (mkF m 303 #[.val (.int p1), .val (.int p2), .val (.ref b1), .unset, .unset, .unset, .unset] [(.int (1048577 : Int32)), (.int (20 : Int32)), (.ref b77), (.ref b77)])) _
    refine st118 _ ?_
    exact k
  clear X116a e116 st118 Z116 N116a O116o N118 X118 W118 Ar_b77 q_b77 S_b77 N_b77 H_b77 G_b77 hin303 cl_b77 pre117
  obtain ⟨cl_b77, Ar_b77, q_b77, S_b77, N_b77, H_b77, G_b77⟩ := V_b77
  have hin309 : ¬ ((21 : Int32) < 0 ∨ cl_b77.slots.size ≤ ((21 : Int32)).toNatClampNeg) := inb_of S_b77 ⟨by decide, by decide⟩
  obtain ⟨T120, h120, X120, e120, W120, st120⟩ := stI X118a hx hZ e118 Ar_b77 (j := (21 : Int32)) hin309 (g := (mkF m 309 #[.val (.int p1), .val (.int p2), .val (.ref b1), .unset, .unset, .unset, .unset] [(.int (2097153 : Int32)), (.int (21 : Int32)), (.ref b77), (.ref b77)])) rfl rfl (hb hby at_309)
  replace V_b1 := V_b1.other W120 ne_b1_b77
  have Z120 : n0 ≤ h120.size := Nat.le_trans Z118 (Keep.of_wr W120).1
  have N120 := Fr.snoc X120 N118a g_b77
  have O120o := O118o.wr W120 g_b77
  have V_b77 : Arv Z h120 b77 k77 .int (25 : Int32) [(.int (1 : Int32)), (.int (3 : Int32)), (.int (5 : Int32)), (.int (9 : Int32)), (.int (25 : Int32)), (.int (57 : Int32)), (.int (121 : Int32)), (.int (153 : Int32)), (.int (409 : Int32)), (.int (921 : Int32)), (.int (1945 : Int32)), (.int (2073 : Int32)), (.int (6169 : Int32)), (.int (14361 : Int32)), (.int (30745 : Int32)), (.int (63513 : Int32)), (.int (67609 : Int32)), (.int (131073 : Int32)), (.int (262145 : Int32)), (.int (524289 : Int32)), (.int (1048577 : Int32)), (.int (2097153 : Int32)), (.int (0 : Int32)), (.int (0 : Int32)), (.int (0 : Int32))] (.int (0 : Int32)) := Arv.set Ar_b77 q_b77 S_b77 N_b77 H_b77 G_b77 rfl W120 21 rfl (Nat.le_of_ble_eq_true rfl)
  obtain ⟨L120a, X120a, N120a⟩ : ∃ L, Stand p l e room_1 s m #[(.int p1), (.int p2)] below meth c T120 L 2 50 ∧ Fr n0 L := ⟨_, X120, N120⟩
  have pre121 : ∀ t, Steps p.tables e below (T120.setTop (mkF m 310 #[.val (.int p1), .val (.int p2), .val (.ref b1), .unset, .unset, .unset, .unset] [(.ref b77)])) t → Steps p.tables e below (s₁.setTop (entryFrame m #[(.int p1), (.int p2)] maxLocals)) t := by
    intro t k
    refine pre119 _ ?_
    show Steps p.tables e below (T118.setTop (mkF m 304 #[.val (.int p1), .val (.int p2), .val (.ref b1), .unset, .unset, .unset, .unset] [(.ref b77)])) _
    refine XS.dup X118a.here hx rfl (hb hby at_304) rfl rfl ?_
    show Steps p.tables e below (T118.setTop (mkF m 305 #[.val (.int p1), .val (.int p2), .val (.ref b1), .unset, .unset, .unset, .unset] [(.ref b77), (.ref b77)])) _
    refine XS.bipush X118a.here hx rfl (hb hby at_305) ?_
    show Steps p.tables e below (T118.setTop (mkF m 307 #[.val (.int p1), .val (.int p2), .val (.ref b1), .unset, .unset, .unset, .unset] [(.int (21 : Int32)), (.ref b77), (.ref b77)])) _
    refine X118a.ldcI hx hown (mvT hZ (hw _ (List.mem_of_getElem? (i := 61) rfl))) rfl (hb hby at_307) ?_
    show Steps p.tables e below (T118.setTop (mkF m 309 #[.val (.int p1), .val (.int p2), .val (.ref b1), .unset, .unset, .unset, .unset] [(.int (2097153 : Int32)), (.int (21 : Int32)), (.ref b77), (.ref b77)])) _
    refine st120 _ ?_
    exact k
  clear X118a e118 st120 Z118 N118a O118o N120 X120 W120 Ar_b77 q_b77 S_b77 N_b77 H_b77 G_b77 hin309 cl_b77 pre119
  obtain ⟨cl_b77, Ar_b77, q_b77, S_b77, N_b77, H_b77, G_b77⟩ := V_b77
  have hin315 : ¬ ((22 : Int32) < 0 ∨ cl_b77.slots.size ≤ ((22 : Int32)).toNatClampNeg) := inb_of S_b77 ⟨by decide, by decide⟩
  obtain ⟨T122, h122, X122, e122, W122, st122⟩ := stI X120a hx hZ e120 Ar_b77 (j := (22 : Int32)) hin315 (g := (mkF m 315 #[.val (.int p1), .val (.int p2), .val (.ref b1), .unset, .unset, .unset, .unset] [(.int (4194305 : Int32)), (.int (22 : Int32)), (.ref b77), (.ref b77)])) rfl rfl (hb hby at_315)
  replace V_b1 := V_b1.other W122 ne_b1_b77
  have Z122 : n0 ≤ h122.size := Nat.le_trans Z120 (Keep.of_wr W122).1
  have N122 := Fr.snoc X122 N120a g_b77
  have O122o := O120o.wr W122 g_b77
  have V_b77 : Arv Z h122 b77 k77 .int (25 : Int32) [(.int (1 : Int32)), (.int (3 : Int32)), (.int (5 : Int32)), (.int (9 : Int32)), (.int (25 : Int32)), (.int (57 : Int32)), (.int (121 : Int32)), (.int (153 : Int32)), (.int (409 : Int32)), (.int (921 : Int32)), (.int (1945 : Int32)), (.int (2073 : Int32)), (.int (6169 : Int32)), (.int (14361 : Int32)), (.int (30745 : Int32)), (.int (63513 : Int32)), (.int (67609 : Int32)), (.int (131073 : Int32)), (.int (262145 : Int32)), (.int (524289 : Int32)), (.int (1048577 : Int32)), (.int (2097153 : Int32)), (.int (4194305 : Int32)), (.int (0 : Int32)), (.int (0 : Int32))] (.int (0 : Int32)) := Arv.set Ar_b77 q_b77 S_b77 N_b77 H_b77 G_b77 rfl W122 22 rfl (Nat.le_of_ble_eq_true rfl)
  obtain ⟨L122a, X122a, N122a⟩ : ∃ L, Stand p l e room_1 s m #[(.int p1), (.int p2)] below meth c T122 L 2 50 ∧ Fr n0 L := ⟨_, X122, N122⟩
  have pre123 : ∀ t, Steps p.tables e below (T122.setTop (mkF m 316 #[.val (.int p1), .val (.int p2), .val (.ref b1), .unset, .unset, .unset, .unset] [(.ref b77)])) t → Steps p.tables e below (s₁.setTop (entryFrame m #[(.int p1), (.int p2)] maxLocals)) t := by
    intro t k
    refine pre121 _ ?_
    show Steps p.tables e below (T120.setTop (mkF m 310 #[.val (.int p1), .val (.int p2), .val (.ref b1), .unset, .unset, .unset, .unset] [(.ref b77)])) _
    refine XS.dup X120a.here hx rfl (hb hby at_310) rfl rfl ?_
    show Steps p.tables e below (T120.setTop (mkF m 311 #[.val (.int p1), .val (.int p2), .val (.ref b1), .unset, .unset, .unset, .unset] [(.ref b77), (.ref b77)])) _
    refine XS.bipush X120a.here hx rfl (hb hby at_311) ?_
    show Steps p.tables e below (T120.setTop (mkF m 313 #[.val (.int p1), .val (.int p2), .val (.ref b1), .unset, .unset, .unset, .unset] [(.int (22 : Int32)), (.ref b77), (.ref b77)])) _
    refine X120a.ldcI hx hown (mvT hZ (hw _ (List.mem_of_getElem? (i := 62) rfl))) rfl (hb hby at_313) ?_
    show Steps p.tables e below (T120.setTop (mkF m 315 #[.val (.int p1), .val (.int p2), .val (.ref b1), .unset, .unset, .unset, .unset] [(.int (4194305 : Int32)), (.int (22 : Int32)), (.ref b77), (.ref b77)])) _
    refine st122 _ ?_
    exact k
  clear X120a e120 st122 Z120 N120a O120o N122 X122 W122 Ar_b77 q_b77 S_b77 N_b77 H_b77 G_b77 hin315 cl_b77 pre121
  obtain ⟨cl_b77, Ar_b77, q_b77, S_b77, N_b77, H_b77, G_b77⟩ := V_b77
  have hin321 : ¬ ((23 : Int32) < 0 ∨ cl_b77.slots.size ≤ ((23 : Int32)).toNatClampNeg) := inb_of S_b77 ⟨by decide, by decide⟩
  obtain ⟨T124, h124, X124, e124, W124, st124⟩ := stI X122a hx hZ e122 Ar_b77 (j := (23 : Int32)) hin321 (g := (mkF m 321 #[.val (.int p1), .val (.int p2), .val (.ref b1), .unset, .unset, .unset, .unset] [(.int (8388609 : Int32)), (.int (23 : Int32)), (.ref b77), (.ref b77)])) rfl rfl (hb hby at_321)
  replace V_b1 := V_b1.other W124 ne_b1_b77
  have Z124 : n0 ≤ h124.size := Nat.le_trans Z122 (Keep.of_wr W124).1
  have N124 := Fr.snoc X124 N122a g_b77
  have O124o := O122o.wr W124 g_b77
  have V_b77 : Arv Z h124 b77 k77 .int (25 : Int32) [(.int (1 : Int32)), (.int (3 : Int32)), (.int (5 : Int32)), (.int (9 : Int32)), (.int (25 : Int32)), (.int (57 : Int32)), (.int (121 : Int32)), (.int (153 : Int32)), (.int (409 : Int32)), (.int (921 : Int32)), (.int (1945 : Int32)), (.int (2073 : Int32)), (.int (6169 : Int32)), (.int (14361 : Int32)), (.int (30745 : Int32)), (.int (63513 : Int32)), (.int (67609 : Int32)), (.int (131073 : Int32)), (.int (262145 : Int32)), (.int (524289 : Int32)), (.int (1048577 : Int32)), (.int (2097153 : Int32)), (.int (4194305 : Int32)), (.int (8388609 : Int32)), (.int (0 : Int32))] (.int (0 : Int32)) := Arv.set Ar_b77 q_b77 S_b77 N_b77 H_b77 G_b77 rfl W124 23 rfl (Nat.le_of_ble_eq_true rfl)
  obtain ⟨L124a, X124a, N124a⟩ : ∃ L, Stand p l e room_1 s m #[(.int p1), (.int p2)] below meth c T124 L 2 50 ∧ Fr n0 L := ⟨_, X124, N124⟩
  have pre125 : ∀ t, Steps p.tables e below (T124.setTop (mkF m 322 #[.val (.int p1), .val (.int p2), .val (.ref b1), .unset, .unset, .unset, .unset] [(.ref b77)])) t → Steps p.tables e below (s₁.setTop (entryFrame m #[(.int p1), (.int p2)] maxLocals)) t := by
    intro t k
    refine pre123 _ ?_
    show Steps p.tables e below (T122.setTop (mkF m 316 #[.val (.int p1), .val (.int p2), .val (.ref b1), .unset, .unset, .unset, .unset] [(.ref b77)])) _
    refine XS.dup X122a.here hx rfl (hb hby at_316) rfl rfl ?_
    show Steps p.tables e below (T122.setTop (mkF m 317 #[.val (.int p1), .val (.int p2), .val (.ref b1), .unset, .unset, .unset, .unset] [(.ref b77), (.ref b77)])) _
    refine XS.bipush X122a.here hx rfl (hb hby at_317) ?_
    show Steps p.tables e below (T122.setTop (mkF m 319 #[.val (.int p1), .val (.int p2), .val (.ref b1), .unset, .unset, .unset, .unset] [(.int (23 : Int32)), (.ref b77), (.ref b77)])) _
    refine X122a.ldcI hx hown (mvT hZ (hw _ (List.mem_of_getElem? (i := 63) rfl))) rfl (hb hby at_319) ?_
    show Steps p.tables e below (T122.setTop (mkF m 321 #[.val (.int p1), .val (.int p2), .val (.ref b1), .unset, .unset, .unset, .unset] [(.int (8388609 : Int32)), (.int (23 : Int32)), (.ref b77), (.ref b77)])) _
    refine st124 _ ?_
    exact k
  clear X122a e122 st124 Z122 N122a O122o N124 X124 W124 Ar_b77 q_b77 S_b77 N_b77 H_b77 G_b77 hin321 cl_b77 pre123
  obtain ⟨cl_b77, Ar_b77, q_b77, S_b77, N_b77, H_b77, G_b77⟩ := V_b77
  have hin327 : ¬ ((24 : Int32) < 0 ∨ cl_b77.slots.size ≤ ((24 : Int32)).toNatClampNeg) := inb_of S_b77 ⟨by decide, by decide⟩
  obtain ⟨T126, h126, X126, e126, W126, st126⟩ := stI X124a hx hZ e124 Ar_b77 (j := (24 : Int32)) hin327 (g := (mkF m 327 #[.val (.int p1), .val (.int p2), .val (.ref b1), .unset, .unset, .unset, .unset] [(.int (16777217 : Int32)), (.int (24 : Int32)), (.ref b77), (.ref b77)])) rfl rfl (hb hby at_327)
  replace V_b1 := V_b1.other W126 ne_b1_b77
  have Z126 : n0 ≤ h126.size := Nat.le_trans Z124 (Keep.of_wr W126).1
  have N126 := Fr.snoc X126 N124a g_b77
  have O126o := O124o.wr W126 g_b77
  have V_b77 : Arv Z h126 b77 k77 .int (25 : Int32) [(.int (1 : Int32)), (.int (3 : Int32)), (.int (5 : Int32)), (.int (9 : Int32)), (.int (25 : Int32)), (.int (57 : Int32)), (.int (121 : Int32)), (.int (153 : Int32)), (.int (409 : Int32)), (.int (921 : Int32)), (.int (1945 : Int32)), (.int (2073 : Int32)), (.int (6169 : Int32)), (.int (14361 : Int32)), (.int (30745 : Int32)), (.int (63513 : Int32)), (.int (67609 : Int32)), (.int (131073 : Int32)), (.int (262145 : Int32)), (.int (524289 : Int32)), (.int (1048577 : Int32)), (.int (2097153 : Int32)), (.int (4194305 : Int32)), (.int (8388609 : Int32)), (.int (16777217 : Int32))] (.int (0 : Int32)) := Arv.set Ar_b77 q_b77 S_b77 N_b77 H_b77 G_b77 rfl W126 24 rfl (Nat.le_of_ble_eq_true rfl)
  obtain ⟨L126a, X126a, N126a⟩ : ∃ L, Stand p l e room_1 s m #[(.int p1), (.int p2)] below meth c T126 L 2 50 ∧ Fr n0 L := ⟨_, X126, N126⟩
  have pre127 : ∀ t, Steps p.tables e below (T126.setTop (mkF m 328 #[.val (.int p1), .val (.int p2), .val (.ref b1), .unset, .unset, .unset, .unset] [(.ref b77)])) t → Steps p.tables e below (s₁.setTop (entryFrame m #[(.int p1), (.int p2)] maxLocals)) t := by
    intro t k
    refine pre125 _ ?_
    show Steps p.tables e below (T124.setTop (mkF m 322 #[.val (.int p1), .val (.int p2), .val (.ref b1), .unset, .unset, .unset, .unset] [(.ref b77)])) _
    refine XS.dup X124a.here hx rfl (hb hby at_322) rfl rfl ?_
    show Steps p.tables e below (T124.setTop (mkF m 323 #[.val (.int p1), .val (.int p2), .val (.ref b1), .unset, .unset, .unset, .unset] [(.ref b77), (.ref b77)])) _
    refine XS.bipush X124a.here hx rfl (hb hby at_323) ?_
    show Steps p.tables e below (T124.setTop (mkF m 325 #[.val (.int p1), .val (.int p2), .val (.ref b1), .unset, .unset, .unset, .unset] [(.int (24 : Int32)), (.ref b77), (.ref b77)])) _
    refine X124a.ldcI hx hown (mvT hZ (hw _ (List.mem_of_getElem? (i := 64) rfl))) rfl (hb hby at_325) ?_
    show Steps p.tables e below (T124.setTop (mkF m 327 #[.val (.int p1), .val (.int p2), .val (.ref b1), .unset, .unset, .unset, .unset] [(.int (16777217 : Int32)), (.int (24 : Int32)), (.ref b77), (.ref b77)])) _
    refine st126 _ ?_
    exact k
  clear X124a e124 st126 Z124 N124a O124o N126 X126 W126 Ar_b77 q_b77 S_b77 N_b77 H_b77 G_b77 hin327 cl_b77 pre125
  obtain ⟨cl_b77, Ar_b77, q_b77, S_b77, N_b77, H_b77, G_b77⟩ := id V_b77
  have hin350 := inb_of S_b77 (own_in p1)
  have hat350 : cl_b77.slots[(((p1 &&& (2147483647 : Int32)) % (25 : Int32))).toNatClampNeg]? = some (.int (own_anc (((p1 &&& (2147483647 : Int32)) % (25 : Int32))).toNatClampNeg)) := Has.at H_b77 hin350 (own_getI [1, 3, 5, 9, 25, 57, 121, 153, 409, 921, 1945, 2073, 6169, 14361, 30745, 63513, 67609, 131073, 262145, 524289, 1048577, 2097153, 4194305, 8388609, 16777217] _)
  have pre128 : ∀ t, Steps p.tables e below (T126.setTop (mkF m 351 #[.val (.int p1), .val (.int p2), .val (.ref b1), .val (.ref b77), .val (.int ((p1 &&& (2147483647 : Int32)) % (25 : Int32))), .val (.int ((p2 &&& (2147483647 : Int32)) % (25 : Int32))), .unset] [(.int (own_anc (((p1 &&& (2147483647 : Int32)) % (25 : Int32))).toNatClampNeg))])) t → Steps p.tables e below (s₁.setTop (entryFrame m #[(.int p1), (.int p2)] maxLocals)) t := by
    intro t k
    refine pre127 _ ?_
    show Steps p.tables e below (T126.setTop (mkF m 328 #[.val (.int p1), .val (.int p2), .val (.ref b1), .unset, .unset, .unset, .unset] [(.ref b77)])) _
    refine XS.astoreN X126a.here hx rfl (hb hby at_328) rfl rfl (l' := #[.val (.int p1), .val (.int p2), .val (.ref b1), .val (.ref b77), .unset, .unset, .unset]) rfl ?_
    show Steps p.tables e below (T126.setTop (mkF m 329 #[.val (.int p1), .val (.int p2), .val (.ref b1), .val (.ref b77), .unset, .unset, .unset] [])) _
    refine XS.iloadN X126a.here hx rfl (hb hby at_329) rfl ?_
    show Steps p.tables e below (T126.setTop (mkF m 330 #[.val (.int p1), .val (.int p2), .val (.ref b1), .val (.ref b77), .unset, .unset, .unset] [(.int p1)])) _
    refine X126a.ldcI hx hown (mvT hZ (hw _ (List.mem_of_getElem? (i := 65) rfl))) rfl (hb hby at_330) ?_
    show Steps p.tables e below (T126.setTop (mkF m 332 #[.val (.int p1), .val (.int p2), .val (.ref b1), .val (.ref b77), .unset, .unset, .unset] [(.int (2147483647 : Int32)), (.int p1)])) _
    refine XS.iand X126a.here hx rfl (hb hby at_332) rfl ?_
    show Steps p.tables e below (T126.setTop (mkF m 333 #[.val (.int p1), .val (.int p2), .val (.ref b1), .val (.ref b77), .unset, .unset, .unset] [(.int (p1 &&& (2147483647 : Int32)))])) _
    refine XS.bipush X126a.here hx rfl (hb hby at_333) ?_
    show Steps p.tables e below (T126.setTop (mkF m 335 #[.val (.int p1), .val (.int p2), .val (.ref b1), .val (.ref b77), .unset, .unset, .unset] [(.int (25 : Int32)), (.int (p1 &&& (2147483647 : Int32)))])) _
    refine iremM X126a hx rfl (hb hby at_335) rfl (by decide) ?_
    show Steps p.tables e below (T126.setTop (mkF m 336 #[.val (.int p1), .val (.int p2), .val (.ref b1), .val (.ref b77), .unset, .unset, .unset] [(.int ((p1 &&& (2147483647 : Int32)) % (25 : Int32)))])) _
    refine XS.istore X126a.here hx rfl (hb hby at_336) rfl (l' := #[.val (.int p1), .val (.int p2), .val (.ref b1), .val (.ref b77), .val (.int ((p1 &&& (2147483647 : Int32)) % (25 : Int32))), .unset, .unset]) rfl ?_
    show Steps p.tables e below (T126.setTop (mkF m 338 #[.val (.int p1), .val (.int p2), .val (.ref b1), .val (.ref b77), .val (.int ((p1 &&& (2147483647 : Int32)) % (25 : Int32))), .unset, .unset] [])) _
    refine XS.iloadN X126a.here hx rfl (hb hby at_338) rfl ?_
    show Steps p.tables e below (T126.setTop (mkF m 339 #[.val (.int p1), .val (.int p2), .val (.ref b1), .val (.ref b77), .val (.int ((p1 &&& (2147483647 : Int32)) % (25 : Int32))), .unset, .unset] [(.int p2)])) _
    refine X126a.ldcI hx hown (mvT hZ (hw _ (List.mem_of_getElem? (i := 65) rfl))) rfl (hb hby at_339) ?_
    show Steps p.tables e below (T126.setTop (mkF m 341 #[.val (.int p1), .val (.int p2), .val (.ref b1), .val (.ref b77), .val (.int ((p1 &&& (2147483647 : Int32)) % (25 : Int32))), .unset, .unset] [(.int (2147483647 : Int32)), (.int p2)])) _
    refine XS.iand X126a.here hx rfl (hb hby at_341) rfl ?_
    show Steps p.tables e below (T126.setTop (mkF m 342 #[.val (.int p1), .val (.int p2), .val (.ref b1), .val (.ref b77), .val (.int ((p1 &&& (2147483647 : Int32)) % (25 : Int32))), .unset, .unset] [(.int (p2 &&& (2147483647 : Int32)))])) _
    refine XS.bipush X126a.here hx rfl (hb hby at_342) ?_
    show Steps p.tables e below (T126.setTop (mkF m 344 #[.val (.int p1), .val (.int p2), .val (.ref b1), .val (.ref b77), .val (.int ((p1 &&& (2147483647 : Int32)) % (25 : Int32))), .unset, .unset] [(.int (25 : Int32)), (.int (p2 &&& (2147483647 : Int32)))])) _
    refine iremM X126a hx rfl (hb hby at_344) rfl (by decide) ?_
    show Steps p.tables e below (T126.setTop (mkF m 345 #[.val (.int p1), .val (.int p2), .val (.ref b1), .val (.ref b77), .val (.int ((p1 &&& (2147483647 : Int32)) % (25 : Int32))), .unset, .unset] [(.int ((p2 &&& (2147483647 : Int32)) % (25 : Int32)))])) _
    refine XS.istore X126a.here hx rfl (hb hby at_345) rfl (l' := #[.val (.int p1), .val (.int p2), .val (.ref b1), .val (.ref b77), .val (.int ((p1 &&& (2147483647 : Int32)) % (25 : Int32))), .val (.int ((p2 &&& (2147483647 : Int32)) % (25 : Int32))), .unset]) rfl ?_
    show Steps p.tables e below (T126.setTop (mkF m 347 #[.val (.int p1), .val (.int p2), .val (.ref b1), .val (.ref b77), .val (.int ((p1 &&& (2147483647 : Int32)) % (25 : Int32))), .val (.int ((p2 &&& (2147483647 : Int32)) % (25 : Int32))), .unset] [])) _
    refine XS.aloadN X126a.here hx rfl (hb hby at_347) rfl rfl ?_
    show Steps p.tables e below (T126.setTop (mkF m 348 #[.val (.int p1), .val (.int p2), .val (.ref b1), .val (.ref b77), .val (.int ((p1 &&& (2147483647 : Int32)) % (25 : Int32))), .val (.int ((p2 &&& (2147483647 : Int32)) % (25 : Int32))), .unset] [(.ref b77)])) _
    refine XS.iload X126a.here hx rfl (hb hby at_348) rfl ?_
    show Steps p.tables e below (T126.setTop (mkF m 350 #[.val (.int p1), .val (.int p2), .val (.ref b1), .val (.ref b77), .val (.int ((p1 &&& (2147483647 : Int32)) % (25 : Int32))), .val (.int ((p2 &&& (2147483647 : Int32)) % (25 : Int32))), .unset] [(.int ((p1 &&& (2147483647 : Int32)) % (25 : Int32))), (.ref b77)])) _
    refine X126a.iaload hx (j := ((p1 &&& (2147483647 : Int32)) % (25 : Int32))) (v := (.int (own_anc (((p1 &&& (2147483647 : Int32)) % (25 : Int32))).toNatClampNeg))) (by rw [e126]; exact Ar_b77.1) (State.isArrayOf_alike hZ.alike Ar_b77.2.1) Ar_b77.2.2 hin350 hat350 (g := (mkF m 350 #[.val (.int p1), .val (.int p2), .val (.ref b1), .val (.ref b77), .val (.int ((p1 &&& (2147483647 : Int32)) % (25 : Int32))), .val (.int ((p2 &&& (2147483647 : Int32)) % (25 : Int32))), .unset] [(.int ((p1 &&& (2147483647 : Int32)) % (25 : Int32))), (.ref b77)])) rfl rfl (hb hby at_350) _ ?_
    exact k
  clear pre127
  obtain ⟨w6, hw6, pre129⟩ : ∃ (w6 : Int32), (w6 = own_bit (own_anc (((p1 &&& (2147483647 : Int32)) % (25 : Int32))).toNatClampNeg) ((p2 &&& (2147483647 : Int32)) % (25 : Int32))) ∧ ∀ t, Steps p.tables e below (T126.setTop (mkF m 364 #[.val (.int p1), .val (.int p2), .val (.ref b1), .val (.ref b77), .val (.int ((p1 &&& (2147483647 : Int32)) % (25 : Int32))), .val (.int ((p2 &&& (2147483647 : Int32)) % (25 : Int32))), .unset] [(.int w6)])) t → Steps p.tables e below (s₁.setTop (entryFrame m #[(.int p1), (.int p2)] maxLocals)) t := by
    have pre130 : ∀ t, Steps p.tables e below (T126.setTop (mkF m 356 #[.val (.int p1), .val (.int p2), .val (.ref b1), .val (.ref b77), .val (.int ((p1 &&& (2147483647 : Int32)) % (25 : Int32))), .val (.int ((p2 &&& (2147483647 : Int32)) % (25 : Int32))), .unset] [(.int ((((own_anc (((p1 &&& (2147483647 : Int32)) % (25 : Int32))).toNatClampNeg).toUInt32 >>> (((p2 &&& (2147483647 : Int32)) % (25 : Int32)) &&& 31).toUInt32).toInt32) &&& (1 : Int32)))])) t → Steps p.tables e below (s₁.setTop (entryFrame m #[(.int p1), (.int p2)] maxLocals)) t := by
      intro t k
      refine pre128 _ ?_
      show Steps p.tables e below (T126.setTop (mkF m 351 #[.val (.int p1), .val (.int p2), .val (.ref b1), .val (.ref b77), .val (.int ((p1 &&& (2147483647 : Int32)) % (25 : Int32))), .val (.int ((p2 &&& (2147483647 : Int32)) % (25 : Int32))), .unset] [(.int (own_anc (((p1 &&& (2147483647 : Int32)) % (25 : Int32))).toNatClampNeg))])) _
      refine XS.iload X126a.here hx rfl (hb hby at_351) rfl ?_
      show Steps p.tables e below (T126.setTop (mkF m 353 #[.val (.int p1), .val (.int p2), .val (.ref b1), .val (.ref b77), .val (.int ((p1 &&& (2147483647 : Int32)) % (25 : Int32))), .val (.int ((p2 &&& (2147483647 : Int32)) % (25 : Int32))), .unset] [(.int ((p2 &&& (2147483647 : Int32)) % (25 : Int32))), (.int (own_anc (((p1 &&& (2147483647 : Int32)) % (25 : Int32))).toNatClampNeg))])) _
      refine XS.iushr X126a.here hx rfl (hb hby at_353) rfl ?_
      show Steps p.tables e below (T126.setTop (mkF m 354 #[.val (.int p1), .val (.int p2), .val (.ref b1), .val (.ref b77), .val (.int ((p1 &&& (2147483647 : Int32)) % (25 : Int32))), .val (.int ((p2 &&& (2147483647 : Int32)) % (25 : Int32))), .unset] [(.int (((own_anc (((p1 &&& (2147483647 : Int32)) % (25 : Int32))).toNatClampNeg).toUInt32 >>> (((p2 &&& (2147483647 : Int32)) % (25 : Int32)) &&& 31).toUInt32).toInt32))])) _
      refine XS.iconst X126a.here hx rfl (hb hby at_354) ?_
      show Steps p.tables e below (T126.setTop (mkF m 355 #[.val (.int p1), .val (.int p2), .val (.ref b1), .val (.ref b77), .val (.int ((p1 &&& (2147483647 : Int32)) % (25 : Int32))), .val (.int ((p2 &&& (2147483647 : Int32)) % (25 : Int32))), .unset] [(.int (1 : Int32)), (.int (((own_anc (((p1 &&& (2147483647 : Int32)) % (25 : Int32))).toNatClampNeg).toUInt32 >>> (((p2 &&& (2147483647 : Int32)) % (25 : Int32)) &&& 31).toUInt32).toInt32))])) _
      refine XS.iand X126a.here hx rfl (hb hby at_355) rfl ?_
      exact k
    by_cases hc356 : ((((own_anc (((p1 &&& (2147483647 : Int32)) % (25 : Int32))).toNatClampNeg).toUInt32 >>> (((p2 &&& (2147483647 : Int32)) % (25 : Int32)) &&& 31).toUInt32).toInt32) &&& (1 : Int32)) = (0 : Int32)
    · -- hc356 
      refine ⟨(0 : Int32), by rw [own_bit, if_pos hc356], fun t k => ?_⟩
      refine pre130 _ ?_
      show Steps p.tables e below (T126.setTop (mkF m 356 #[.val (.int p1), .val (.int p2), .val (.ref b1), .val (.ref b77), .val (.int ((p1 &&& (2147483647 : Int32)) % (25 : Int32))), .val (.int ((p2 &&& (2147483647 : Int32)) % (25 : Int32))), .unset] [(.int ((((own_anc (((p1 &&& (2147483647 : Int32)) % (25 : Int32))).toNatClampNeg).toUInt32 >>> (((p2 &&& (2147483647 : Int32)) % (25 : Int32)) &&& 31).toUInt32).toInt32) &&& (1 : Int32)))])) _
      refine XS.ifYes X126a.here hx rfl (pc0 := 356) (pc' := 363) rfl (hb hby at_356) rfl ((if0 _ _).trans (teq hc356).1) (by decide) (by decide) ?_
      show Steps p.tables e below (T126.setTop (mkF m 363 #[.val (.int p1), .val (.int p2), .val (.ref b1), .val (.ref b77), .val (.int ((p1 &&& (2147483647 : Int32)) % (25 : Int32))), .val (.int ((p2 &&& (2147483647 : Int32)) % (25 : Int32))), .unset] [])) _
      refine XS.iconst X126a.here hx rfl (hb hby at_363) ?_
      exact k
    · -- hc356 not
      refine ⟨(1 : Int32), by rw [own_bit, if_neg hc356], fun t k => ?_⟩
      refine pre130 _ ?_
      show Steps p.tables e below (T126.setTop (mkF m 356 #[.val (.int p1), .val (.int p2), .val (.ref b1), .val (.ref b77), .val (.int ((p1 &&& (2147483647 : Int32)) % (25 : Int32))), .val (.int ((p2 &&& (2147483647 : Int32)) % (25 : Int32))), .unset] [(.int ((((own_anc (((p1 &&& (2147483647 : Int32)) % (25 : Int32))).toNatClampNeg).toUInt32 >>> (((p2 &&& (2147483647 : Int32)) % (25 : Int32)) &&& 31).toUInt32).toInt32) &&& (1 : Int32)))])) _
      refine XS.ifNo X126a.here hx rfl (hb hby at_356) rfl ((if0 _ _).trans (feq hc356).1) ?_
      show Steps p.tables e below (T126.setTop (mkF m 359 #[.val (.int p1), .val (.int p2), .val (.ref b1), .val (.ref b77), .val (.int ((p1 &&& (2147483647 : Int32)) % (25 : Int32))), .val (.int ((p2 &&& (2147483647 : Int32)) % (25 : Int32))), .unset] [])) _
      refine XS.iconst X126a.here hx rfl (hb hby at_359) ?_
      show Steps p.tables e below (T126.setTop (mkF m 360 #[.val (.int p1), .val (.int p2), .val (.ref b1), .val (.ref b77), .val (.int ((p1 &&& (2147483647 : Int32)) % (25 : Int32))), .val (.int ((p2 &&& (2147483647 : Int32)) % (25 : Int32))), .unset] [(.int (1 : Int32))])) _
      refine XS.goto X126a.here hx rfl (pc0 := 360) (pc' := 364) rfl (hb hby at_360) (by decide) (by decide) ?_
      exact k
  obtain ⟨cl_b1, Ar_b1, q_b1, S_b1, N_b1, H_b1, G_b1⟩ := id V_b1
  have hin369 := inb_of S_b1 (own_in p1)
  have hat369 := Has.at H_b1 hin369 (own_tab tt _ (own_k p1))
  have pre131 : ∀ t, Steps p.tables e below (T126.setTop (mkF m 370 #[.val (.int p1), .val (.int p2), .val (.ref b1), .val (.ref b77), .val (.int ((p1 &&& (2147483647 : Int32)) % (25 : Int32))), .val (.int ((p2 &&& (2147483647 : Int32)) % (25 : Int32))), .val (.int w6)] [(.ref (tt (((p1 &&& (2147483647 : Int32)) % (25 : Int32))).toNatClampNeg))])) t → Steps p.tables e below (s₁.setTop (entryFrame m #[(.int p1), (.int p2)] maxLocals)) t := by
    intro t k
    refine pre129 _ ?_
    show Steps p.tables e below (T126.setTop (mkF m 364 #[.val (.int p1), .val (.int p2), .val (.ref b1), .val (.ref b77), .val (.int ((p1 &&& (2147483647 : Int32)) % (25 : Int32))), .val (.int ((p2 &&& (2147483647 : Int32)) % (25 : Int32))), .unset] [(.int w6)])) _
    refine XS.istore X126a.here hx rfl (hb hby at_364) rfl (l' := #[.val (.int p1), .val (.int p2), .val (.ref b1), .val (.ref b77), .val (.int ((p1 &&& (2147483647 : Int32)) % (25 : Int32))), .val (.int ((p2 &&& (2147483647 : Int32)) % (25 : Int32))), .val (.int w6)]) rfl ?_
    show Steps p.tables e below (T126.setTop (mkF m 366 #[.val (.int p1), .val (.int p2), .val (.ref b1), .val (.ref b77), .val (.int ((p1 &&& (2147483647 : Int32)) % (25 : Int32))), .val (.int ((p2 &&& (2147483647 : Int32)) % (25 : Int32))), .val (.int w6)] [])) _
    refine XS.aloadN X126a.here hx rfl (hb hby at_366) rfl rfl ?_
    show Steps p.tables e below (T126.setTop (mkF m 367 #[.val (.int p1), .val (.int p2), .val (.ref b1), .val (.ref b77), .val (.int ((p1 &&& (2147483647 : Int32)) % (25 : Int32))), .val (.int ((p2 &&& (2147483647 : Int32)) % (25 : Int32))), .val (.int w6)] [(.ref b1)])) _
    refine XS.iload X126a.here hx rfl (hb hby at_367) rfl ?_
    show Steps p.tables e below (T126.setTop (mkF m 369 #[.val (.int p1), .val (.int p2), .val (.ref b1), .val (.ref b77), .val (.int ((p1 &&& (2147483647 : Int32)) % (25 : Int32))), .val (.int ((p2 &&& (2147483647 : Int32)) % (25 : Int32))), .val (.int w6)] [(.int ((p1 &&& (2147483647 : Int32)) % (25 : Int32))), (.ref b1)])) _
    refine X126a.aaload hx (j := ((p1 &&& (2147483647 : Int32)) % (25 : Int32))) (v := (.ref (tt (((p1 &&& (2147483647 : Int32)) % (25 : Int32))).toNatClampNeg))) (by rw [e126]; exact Ar_b1.1) (State.isArrayOf_alike hZ.alike Ar_b1.2.1) rfl Ar_b1.2.2 hin369 hat369 (g := (mkF m 369 #[.val (.int p1), .val (.int p2), .val (.ref b1), .val (.ref b77), .val (.int ((p1 &&& (2147483647 : Int32)) % (25 : Int32))), .val (.int ((p2 &&& (2147483647 : Int32)) % (25 : Int32))), .val (.int w6)] [(.int ((p1 &&& (2147483647 : Int32)) % (25 : Int32))), (.ref b1)])) rfl rfl (hb hby at_369) _ ?_
    exact k
  clear pre129
  obtain ⟨cl_b1, Ar_b1, q_b1, S_b1, N_b1, H_b1, G_b1⟩ := id V_b1
  have hin373 := inb_of S_b1 (own_in p2)
  have hat373 := Has.at H_b1 hin373 (own_tab tt _ (own_k p2))
  have pre132 : ∀ t, Steps p.tables e below (T126.setTop (mkF m 374 #[.val (.int p1), .val (.int p2), .val (.ref b1), .val (.ref b77), .val (.int ((p1 &&& (2147483647 : Int32)) % (25 : Int32))), .val (.int ((p2 &&& (2147483647 : Int32)) % (25 : Int32))), .val (.int w6)] [(.ref (tt (((p2 &&& (2147483647 : Int32)) % (25 : Int32))).toNatClampNeg)), (.ref (tt (((p1 &&& (2147483647 : Int32)) % (25 : Int32))).toNatClampNeg))])) t → Steps p.tables e below (s₁.setTop (entryFrame m #[(.int p1), (.int p2)] maxLocals)) t := by
    intro t k
    refine pre131 _ ?_
    show Steps p.tables e below (T126.setTop (mkF m 370 #[.val (.int p1), .val (.int p2), .val (.ref b1), .val (.ref b77), .val (.int ((p1 &&& (2147483647 : Int32)) % (25 : Int32))), .val (.int ((p2 &&& (2147483647 : Int32)) % (25 : Int32))), .val (.int w6)] [(.ref (tt (((p1 &&& (2147483647 : Int32)) % (25 : Int32))).toNatClampNeg))])) _
    refine XS.aloadN X126a.here hx rfl (hb hby at_370) rfl rfl ?_
    show Steps p.tables e below (T126.setTop (mkF m 371 #[.val (.int p1), .val (.int p2), .val (.ref b1), .val (.ref b77), .val (.int ((p1 &&& (2147483647 : Int32)) % (25 : Int32))), .val (.int ((p2 &&& (2147483647 : Int32)) % (25 : Int32))), .val (.int w6)] [(.ref b1), (.ref (tt (((p1 &&& (2147483647 : Int32)) % (25 : Int32))).toNatClampNeg))])) _
    refine XS.iload X126a.here hx rfl (hb hby at_371) rfl ?_
    show Steps p.tables e below (T126.setTop (mkF m 373 #[.val (.int p1), .val (.int p2), .val (.ref b1), .val (.ref b77), .val (.int ((p1 &&& (2147483647 : Int32)) % (25 : Int32))), .val (.int ((p2 &&& (2147483647 : Int32)) % (25 : Int32))), .val (.int w6)] [(.int ((p2 &&& (2147483647 : Int32)) % (25 : Int32))), (.ref b1), (.ref (tt (((p1 &&& (2147483647 : Int32)) % (25 : Int32))).toNatClampNeg))])) _
    refine X126a.aaload hx (j := ((p2 &&& (2147483647 : Int32)) % (25 : Int32))) (v := (.ref (tt (((p2 &&& (2147483647 : Int32)) % (25 : Int32))).toNatClampNeg))) (by rw [e126]; exact Ar_b1.1) (State.isArrayOf_alike hZ.alike Ar_b1.2.1) rfl Ar_b1.2.2 hin373 hat373 (g := (mkF m 373 #[.val (.int p1), .val (.int p2), .val (.ref b1), .val (.ref b77), .val (.int ((p1 &&& (2147483647 : Int32)) % (25 : Int32))), .val (.int ((p2 &&& (2147483647 : Int32)) % (25 : Int32))), .val (.int w6)] [(.int ((p2 &&& (2147483647 : Int32)) % (25 : Int32))), (.ref b1), (.ref (tt (((p1 &&& (2147483647 : Int32)) % (25 : Int32))).toNatClampNeg))])) rfl rfl (hb hby at_373) _ ?_
    exact k
  clear pre131
  obtain ⟨cq133, kq133, q133a, q133b, q133c⟩ := isOf hZ e126 ((EX _ (own_k p1)).ext O126o.2)
  obtain ⟨_, _, ⟨T133, L133, k133, n133⟩, -, X133, ⟨Lc133, hQ133, l133, y133, z133⟩, st133⟩ := X126a.virtualBack hx (y := (⟨"com/example/kennet/kennet/xdm/AtomicType", "isSubtypeOf", "(Lcom/example/kennet/kennet/xdm/AtomicType;)Z"⟩ : MethodName)) (z := (⟨"com/example/kennet/kennet/xdm/AtomicType", "isSubtypeOf", "(Lcom/example/kennet/kennet/xdm/AtomicType;)Z"⟩ : MethodName)) hown (mvT hZ (hw _ (List.mem_of_getElem? (i := 66) rfl))) (mvT hZ (hw _ (List.mem_of_getElem? (i := 67) rfl))) (notFace_of_selects (args := #[]) (mvT hZ (hw _ (List.mem_of_getElem? (i := 69) rfl)))) (mvT hZ (hw _ (List.mem_of_getElem? (i := 69) rfl))) (mvT hZ (hw _ (List.mem_of_getElem? (i := 68) rfl))) (by decide) (backOf (W := 0) (rm1 l Z a0 hw [] (tt (((p1 &&& (2147483647 : Int32)) % (25 : Int32))).toNatClampNeg) (tt (((p2 &&& (2147483647 : Int32)) % (25 : Int32))).toNatClampNeg) tt ((((p1 &&& (2147483647 : Int32)) % (25 : Int32))).toNatClampNeg) ((((p2 &&& (2147483647 : Int32)) % (25 : Int32))).toNatClampNeg) h126 n0 Z126 (own_k p1) (own_k p2) (rfl) (rfl) (OR) (BT) O126o) hZ (hw _ (List.mem_of_getElem? (i := 70) rfl)) (hw _ (List.mem_of_getElem? (i := 3) rfl)) (by decide) (by decide)) q133a q133c (g := (mkF m 374 #[.val (.int p1), .val (.int p2), .val (.ref b1), .val (.ref b77), .val (.int ((p1 &&& (2147483647 : Int32)) % (25 : Int32))), .val (.int ((p2 &&& (2147483647 : Int32)) % (25 : Int32))), .val (.int w6)] [(.ref (tt (((p2 &&& (2147483647 : Int32)) % (25 : Int32))).toNatClampNeg)), (.ref (tt (((p1 &&& (2147483647 : Int32)) % (25 : Int32))).toNatClampNeg))])) rfl (by rw [hml]; rfl) (Steps.refl _) (argsL := [(.ref (tt (((p2 &&& (2147483647 : Int32)) % (25 : Int32))).toNatClampNeg))]) (rest := []) (lenOf own_pd0 rfl) rfl (by show 2 * 0 + _ ≤ _; exact Nat.le_of_eq rfl) (hb hby at_374) (fun _ _ => ⟨rfl, e126, (by decide : 2 + 0 ≤ _), (by decide : 50 + 0 ≤ _)⟩)
  dsimp only [Pt.U, Pt.locs, Pt.cells, Pt.slots] at X133 l133 y133 z133 st133 hQ133
  subst l133 y133 z133
  obtain ⟨rfl, N133q, e133⟩ := hQ133
  have N133 := Fr.app N126a N133q
  have pre134 : ∀ t, Steps p.tables e below (T133.setTop (mkF m 387 #[.val (.int p1), .val (.int p2), .val (.ref b1), .val (.ref b77), .val (.int ((p1 &&& (2147483647 : Int32)) % (25 : Int32))), .val (.int ((p2 &&& (2147483647 : Int32)) % (25 : Int32))), .val (.int w6)] [(.int (1 : Int32))])) t → Steps p.tables e below (s₁.setTop (entryFrame m #[(.int p1), (.int p2)] maxLocals)) t := by
    intro t k
    refine pre132 _ ?_
    show Steps p.tables e below (T126.setTop (mkF m 374 #[.val (.int p1), .val (.int p2), .val (.ref b1), .val (.ref b77), .val (.int ((p1 &&& (2147483647 : Int32)) % (25 : Int32))), .val (.int ((p2 &&& (2147483647 : Int32)) % (25 : Int32))), .val (.int w6)] [(.ref (tt (((p2 &&& (2147483647 : Int32)) % (25 : Int32))).toNatClampNeg)), (.ref (tt (((p1 &&& (2147483647 : Int32)) % (25 : Int32))).toNatClampNeg))])) _
    refine st133.trans ?_
    show Steps p.tables e below (T133.setTop (mkF m 377 #[.val (.int p1), .val (.int p2), .val (.ref b1), .val (.ref b77), .val (.int ((p1 &&& (2147483647 : Int32)) % (25 : Int32))), .val (.int ((p2 &&& (2147483647 : Int32)) % (25 : Int32))), .val (.int w6)] [(.int (own_sub 9 (((p1 &&& (2147483647 : Int32)) % (25 : Int32))).toNatClampNeg (((p2 &&& (2147483647 : Int32)) % (25 : Int32))).toNatClampNeg))])) _
    refine XS.iload X133.here hx rfl (hb hby at_377) rfl ?_
    show Steps p.tables e below (T133.setTop (mkF m 379 #[.val (.int p1), .val (.int p2), .val (.ref b1), .val (.ref b77), .val (.int ((p1 &&& (2147483647 : Int32)) % (25 : Int32))), .val (.int ((p2 &&& (2147483647 : Int32)) % (25 : Int32))), .val (.int w6)] [(.int w6), (.int (own_sub 9 (((p1 &&& (2147483647 : Int32)) % (25 : Int32))).toNatClampNeg (((p2 &&& (2147483647 : Int32)) % (25 : Int32))).toNatClampNeg))])) _
    refine XS.icmpNo X133.here hx rfl (hb hby at_379) rfl (teq ((own_fin _ _ (own_k p1) (own_k p2) (own_in p2).1).trans hw6.symm : (own_sub 9 (((p1 &&& (2147483647 : Int32)) % (25 : Int32))).toNatClampNeg (((p2 &&& (2147483647 : Int32)) % (25 : Int32))).toNatClampNeg) = w6)).2 ?_
    show Steps p.tables e below (T133.setTop (mkF m 382 #[.val (.int p1), .val (.int p2), .val (.ref b1), .val (.ref b77), .val (.int ((p1 &&& (2147483647 : Int32)) % (25 : Int32))), .val (.int ((p2 &&& (2147483647 : Int32)) % (25 : Int32))), .val (.int w6)] [])) _
    refine XS.iconst X133.here hx rfl (hb hby at_382) ?_
    show Steps p.tables e below (T133.setTop (mkF m 383 #[.val (.int p1), .val (.int p2), .val (.ref b1), .val (.ref b77), .val (.int ((p1 &&& (2147483647 : Int32)) % (25 : Int32))), .val (.int ((p2 &&& (2147483647 : Int32)) % (25 : Int32))), .val (.int w6)] [(.int (1 : Int32))])) _
    refine XS.goto X133.here hx rfl (pc0 := 383) (pc' := 387) rfl (hb hby at_383) (by decide) (by decide) ?_
    exact k
  clear pre132
  obtain ⟨fs, hr, hrun, hended, hW, hsame⟩ := X133.leave (v := some (.int (1 : Int32))) (fun h => by rw [Bd.returns] at h; cases h)
  refine ⟨_, _, pre134 _ ?_, hrun, hended, _, _, rfl, ?_, ⟨_, rfl⟩, hW, hsame.mono (by decide) (by decide)⟩
  · show Steps p.tables e below (T133.setTop (mkF m 387 #[.val (.int p1), .val (.int p2), .val (.ref b1), .val (.ref b77), .val (.int ((p1 &&& (2147483647 : Int32)) % (25 : Int32))), .val (.int ((p2 &&& (2147483647 : Int32)) % (25 : Int32))), .val (.int w6)] [(.int (1 : Int32))])) _
    exact retN X133 hx (t := .boolean) Bd.returns (by simp) (hb hby at_387) hr
  · show own_Q0 Z p1 p2 tt h0 n0 _ T133.heap _
    rw [e133]
    exact ⟨rfl, N133⟩
set_option maxRecDepth 65536 in
set_option maxHeartbeats 40000000 in
theorem comes_1 {Post : Tables → Env → Array Value → State → Outcome → State → Prop} (hpost : ∀ tb e args s v u, (limb_1_1.after args s (.returned v) u = true ∧ limb_1_2.after args s (.returned v) u = true ∧ True) → FrameEnd s (.returned v) u (Jvm.fieldLocs frame_1_writes args s ++ Jvm.arrayLocs frame_1_arrays args s ++ Jvm.staticLocs frame_1_statics s) 16 192 → Post tb e args s (.returned v) u) :
    ArmFor flags0 classFile x code maxLocals ret World_1 tables_1 room_1 Calls_1 rest_1 Pre_1 Post := by
  intro l hfl _ _ p e ha hc hk s m args below hf hA hF happ hP
  obtain ⟨hcalls, hrest, hpre⟩ := hP
  obtain ⟨-, -, -, hnamed, -, -, -, hat⟩ := (Spec.applies_iff hf).mp happ
  obtain ⟨hg, hn⟩ := and_e (Cond.before_iff.mp (show (Jvm.Cond.and given_1 narrow_1).before args s = true from hpre))
  obtain ⟨hg2, hg3⟩ := and_e hg
  obtain ⟨hg4, hg5⟩ := and_e hg3
  obtain ⟨w0, w1, rfl⟩ : ∃ w0 w1 : Value, args = #[w0, w1] := by
    have hs : args.size = 2 := by simpa [Cond.value, given_1] using hg2
    obtain ⟨L⟩ := args
    match L, hs with
    | [w0, w1], _ => exact ⟨w0, w1, rfl⟩
  have hw := fun d (hd : d ∈ tables_1) => atoms_spec (ws := Jvm.Cond.code x code maxLocals ret :: tables_1) hat d (List.mem_cons_of_mem _ hd)
  obtain ⟨i0, ei0⟩ := is_v hg4
  obtain rfl : w0 = (.int i0) := Option.some.inj ei0
  obtain ⟨i1, ei1⟩ := is_v hg5
  obtain rfl : w1 = (.int i1) := Option.some.inj ei1
  obtain ⟨c0, m0⟩ := and_e hn
  obtain ⟨c1, m1⟩ := and_e m0
  obtain ⟨c2, m2⟩ := and_e m1
  obtain ⟨c3, m3⟩ := and_e m2
  obtain ⟨c4, m4⟩ := and_e m3
  obtain ⟨c5, m5⟩ := and_e m4
  obtain ⟨c6, m6⟩ := and_e m5
  obtain ⟨c7, m7⟩ := and_e m6
  obtain ⟨c8, m8⟩ := and_e m7
  obtain ⟨c9, m9⟩ := and_e m8
  obtain ⟨c10, m10⟩ := and_e m9
  obtain ⟨c11, m11⟩ := and_e m10
  obtain ⟨c12, m12⟩ := and_e m11
  obtain ⟨c13, m13⟩ := and_e m12
  obtain ⟨c14, m14⟩ := and_e m13
  obtain ⟨c15, m15⟩ := and_e m14
  obtain ⟨c16, m16⟩ := and_e m15
  obtain ⟨c17, m17⟩ := and_e m16
  obtain ⟨c18, m18⟩ := and_e m17
  obtain ⟨c19, m19⟩ := and_e m18
  obtain ⟨c20, m20⟩ := and_e m19
  obtain ⟨c21, m21⟩ := and_e m20
  obtain ⟨c22, m22⟩ := and_e m21
  obtain ⟨c23, m23⟩ := and_e m22
  obtain ⟨c24, m24⟩ := and_e m23
  obtain ⟨c25, m25⟩ := and_e m24
  obtain ⟨c26, m26⟩ := and_e m25
  obtain ⟨c27, m27⟩ := and_e m26
  obtain ⟨c28, m28⟩ := and_e m27
  obtain ⟨c29, m29⟩ := and_e m28
  obtain ⟨c30, m30⟩ := and_e m29
  obtain ⟨c31, m31⟩ := and_e m30
  obtain ⟨c32, m32⟩ := and_e m31
  obtain ⟨c33, m33⟩ := and_e m32
  obtain ⟨c34, m34⟩ := and_e m33
  obtain ⟨c35, m35⟩ := and_e m34
  obtain ⟨c36, m36⟩ := and_e m35
  obtain ⟨c37, m37⟩ := and_e m36
  obtain ⟨c38, m38⟩ := and_e m37
  obtain ⟨c39, m39⟩ := and_e m38
  obtain ⟨c40, m40⟩ := and_e m39
  obtain ⟨c41, m41⟩ := and_e m40
  obtain ⟨c42, m42⟩ := and_e m41
  obtain ⟨c43, m43⟩ := and_e m42
  obtain ⟨c44, m44⟩ := and_e m43
  obtain ⟨c45, m45⟩ := and_e m44
  obtain ⟨c46, m46⟩ := and_e m45
  obtain ⟨c47, m47⟩ := and_e m46
  obtain ⟨c48, m48⟩ := and_e m47
  obtain ⟨c49, m49⟩ := and_e m48
  obtain ⟨c50, m50⟩ := and_e m49
  obtain ⟨c51, m51⟩ := and_e m50
  obtain ⟨c52, m52⟩ := and_e m51
  obtain ⟨c53, m53⟩ := and_e m52
  obtain ⟨c54, m54⟩ := and_e m53
  obtain ⟨c55, m55⟩ := and_e m54
  obtain ⟨c56, m56⟩ := and_e m55
  obtain ⟨c57, m57⟩ := and_e m56
  obtain ⟨c58, m58⟩ := and_e m57
  obtain ⟨c59, m59⟩ := and_e m58
  obtain ⟨c60, m60⟩ := and_e m59
  obtain ⟨c61, m61⟩ := and_e m60
  obtain ⟨c62, m62⟩ := and_e m61
  obtain ⟨c63, m63⟩ := and_e m62
  obtain ⟨c64, m64⟩ := and_e m63
  obtain ⟨c65, m65⟩ := and_e m64
  obtain ⟨c66, m66⟩ := and_e m65
  obtain ⟨c67, m67⟩ := and_e m66
  obtain ⟨c68, m68⟩ := and_e m67
  obtain ⟨c69, m69⟩ := and_e m68
  obtain ⟨c70, m70⟩ := and_e m69
  obtain ⟨c71, m71⟩ := and_e m70
  obtain ⟨c72, m72⟩ := and_e m71
  obtain ⟨c73, m73⟩ := and_e m72
  obtain ⟨t0, et0⟩ := exa_v c0
  have BS_ANY_ATOMIC_TYPE := Sta.start et0 (Or.inr ⟨(hw _ (List.mem_of_getElem? (i := 3) rfl)), (hw _ (List.mem_of_getElem? (i := 4) rfl))⟩)
  have EX0 := Exa.start et0 c0
  obtain ⟨t1, et1⟩ := exa_v c1
  have BS_STRING := Sta.start et1 (Or.inr ⟨(hw _ (List.mem_of_getElem? (i := 3) rfl)), (hw _ (List.mem_of_getElem? (i := 7) rfl))⟩)
  have EX1 := Exa.start et1 c1
  obtain ⟨t2, et2⟩ := exa_v c2
  have BS_BOOLEAN := Sta.start et2 (Or.inr ⟨(hw _ (List.mem_of_getElem? (i := 3) rfl)), (hw _ (List.mem_of_getElem? (i := 9) rfl))⟩)
  have EX2 := Exa.start et2 c2
  obtain ⟨t3, et3⟩ := exa_v c3
  have BS_DECIMAL := Sta.start et3 (Or.inr ⟨(hw _ (List.mem_of_getElem? (i := 3) rfl)), (hw _ (List.mem_of_getElem? (i := 11) rfl))⟩)
  have EX3 := Exa.start et3 c3
  obtain ⟨t4, et4⟩ := exa_v c4
  have BS_INTEGER := Sta.start et4 (Or.inr ⟨(hw _ (List.mem_of_getElem? (i := 3) rfl)), (hw _ (List.mem_of_getElem? (i := 13) rfl))⟩)
  have EX4 := Exa.start et4 c4
  obtain ⟨t5, et5⟩ := exa_v c5
  have BS_NON_POSITIVE_INTEGER := Sta.start et5 (Or.inr ⟨(hw _ (List.mem_of_getElem? (i := 3) rfl)), (hw _ (List.mem_of_getElem? (i := 15) rfl))⟩)
  have EX5 := Exa.start et5 c5
  obtain ⟨t6, et6⟩ := exa_v c6
  have BS_NEGATIVE_INTEGER := Sta.start et6 (Or.inr ⟨(hw _ (List.mem_of_getElem? (i := 3) rfl)), (hw _ (List.mem_of_getElem? (i := 17) rfl))⟩)
  have EX6 := Exa.start et6 c6
  obtain ⟨t7, et7⟩ := exa_v c7
  have BS_LONG := Sta.start et7 (Or.inr ⟨(hw _ (List.mem_of_getElem? (i := 3) rfl)), (hw _ (List.mem_of_getElem? (i := 19) rfl))⟩)
  have EX7 := Exa.start et7 c7
  obtain ⟨t8, et8⟩ := exa_v c8
  have BS_INT := Sta.start et8 (Or.inr ⟨(hw _ (List.mem_of_getElem? (i := 3) rfl)), (hw _ (List.mem_of_getElem? (i := 21) rfl))⟩)
  have EX8 := Exa.start et8 c8
  obtain ⟨t9, et9⟩ := exa_v c9
  have BS_SHORT := Sta.start et9 (Or.inr ⟨(hw _ (List.mem_of_getElem? (i := 3) rfl)), (hw _ (List.mem_of_getElem? (i := 23) rfl))⟩)
  have EX9 := Exa.start et9 c9
  obtain ⟨t10, et10⟩ := exa_v c10
  have BS_BYTE := Sta.start et10 (Or.inr ⟨(hw _ (List.mem_of_getElem? (i := 3) rfl)), (hw _ (List.mem_of_getElem? (i := 25) rfl))⟩)
  have EX10 := Exa.start et10 c10
  obtain ⟨t11, et11⟩ := exa_v c11
  have BS_NON_NEGATIVE_INTEGER := Sta.start et11 (Or.inr ⟨(hw _ (List.mem_of_getElem? (i := 3) rfl)), (hw _ (List.mem_of_getElem? (i := 27) rfl))⟩)
  have EX11 := Exa.start et11 c11
  obtain ⟨t12, et12⟩ := exa_v c12
  have BS_UNSIGNED_LONG := Sta.start et12 (Or.inr ⟨(hw _ (List.mem_of_getElem? (i := 3) rfl)), (hw _ (List.mem_of_getElem? (i := 29) rfl))⟩)
  have EX12 := Exa.start et12 c12
  obtain ⟨t13, et13⟩ := exa_v c13
  have BS_UNSIGNED_INT := Sta.start et13 (Or.inr ⟨(hw _ (List.mem_of_getElem? (i := 3) rfl)), (hw _ (List.mem_of_getElem? (i := 31) rfl))⟩)
  have EX13 := Exa.start et13 c13
  obtain ⟨t14, et14⟩ := exa_v c14
  have BS_UNSIGNED_SHORT := Sta.start et14 (Or.inr ⟨(hw _ (List.mem_of_getElem? (i := 3) rfl)), (hw _ (List.mem_of_getElem? (i := 33) rfl))⟩)
  have EX14 := Exa.start et14 c14
  obtain ⟨t15, et15⟩ := exa_v c15
  have BS_UNSIGNED_BYTE := Sta.start et15 (Or.inr ⟨(hw _ (List.mem_of_getElem? (i := 3) rfl)), (hw _ (List.mem_of_getElem? (i := 35) rfl))⟩)
  have EX15 := Exa.start et15 c15
  obtain ⟨t16, et16⟩ := exa_v c16
  have BS_POSITIVE_INTEGER := Sta.start et16 (Or.inr ⟨(hw _ (List.mem_of_getElem? (i := 3) rfl)), (hw _ (List.mem_of_getElem? (i := 37) rfl))⟩)
  have EX16 := Exa.start et16 c16
  obtain ⟨t17, et17⟩ := exa_v c17
  have BS_FLOAT := Sta.start et17 (Or.inr ⟨(hw _ (List.mem_of_getElem? (i := 3) rfl)), (hw _ (List.mem_of_getElem? (i := 39) rfl))⟩)
  have EX17 := Exa.start et17 c17
  obtain ⟨t18, et18⟩ := exa_v c18
  have BS_DOUBLE := Sta.start et18 (Or.inr ⟨(hw _ (List.mem_of_getElem? (i := 3) rfl)), (hw _ (List.mem_of_getElem? (i := 41) rfl))⟩)
  have EX18 := Exa.start et18 c18
  obtain ⟨t19, et19⟩ := exa_v c19
  have BS_UNTYPED_ATOMIC := Sta.start et19 (Or.inr ⟨(hw _ (List.mem_of_getElem? (i := 3) rfl)), (hw _ (List.mem_of_getElem? (i := 43) rfl))⟩)
  have EX19 := Exa.start et19 c19
  obtain ⟨t20, et20⟩ := exa_v c20
  have BS_ANY_URI := Sta.start et20 (Or.inr ⟨(hw _ (List.mem_of_getElem? (i := 3) rfl)), (hw _ (List.mem_of_getElem? (i := 45) rfl))⟩)
  have EX20 := Exa.start et20 c20
  obtain ⟨t21, et21⟩ := exa_v c21
  have BS_QNAME := Sta.start et21 (Or.inr ⟨(hw _ (List.mem_of_getElem? (i := 3) rfl)), (hw _ (List.mem_of_getElem? (i := 47) rfl))⟩)
  have EX21 := Exa.start et21 c21
  obtain ⟨t22, et22⟩ := exa_v c22
  have BS_HEX_BINARY := Sta.start et22 (Or.inr ⟨(hw _ (List.mem_of_getElem? (i := 3) rfl)), (hw _ (List.mem_of_getElem? (i := 49) rfl))⟩)
  have EX22 := Exa.start et22 c22
  obtain ⟨t23, et23⟩ := exa_v c23
  have BS_BASE64_BINARY := Sta.start et23 (Or.inr ⟨(hw _ (List.mem_of_getElem? (i := 3) rfl)), (hw _ (List.mem_of_getElem? (i := 51) rfl))⟩)
  have EX23 := Exa.start et23 c23
  obtain ⟨t24, et24⟩ := exa_v c24
  have BS_DATE := Sta.start et24 (Or.inr ⟨(hw _ (List.mem_of_getElem? (i := 3) rfl)), (hw _ (List.mem_of_getElem? (i := 53) rfl))⟩)
  have EX24 := Exa.start et24 c24
  have OR0 := Fld.start ((fld_at et0).symm.trans (eqv_i (Term.int_eval 0) c25))
  have OR3 := Fld.start ((fld_at et3).symm.trans (eqv_i (Term.int_eval 3) c26))
  have BT0 := Fld.start ((fld_at et0).symm.trans (null_v c27))
  have OR14 := Fld.start ((fld_at et14).symm.trans (eqv_i (Term.int_eval 14) c28))
  have OR1 := Fld.start ((fld_at et1).symm.trans (eqv_i (Term.int_eval 1) c29))
  have BT14 := Fld.start ((fld_at et14).symm.trans (own_eqr et13 c30))
  have OR13 := Fld.start ((fld_at et13).symm.trans (eqv_i (Term.int_eval 13) c31))
  have BT13 := Fld.start ((fld_at et13).symm.trans (own_eqr et12 c32))
  have OR12 := Fld.start ((fld_at et12).symm.trans (eqv_i (Term.int_eval 12) c33))
  have BT12 := Fld.start ((fld_at et12).symm.trans (own_eqr et11 c34))
  have OR11 := Fld.start ((fld_at et11).symm.trans (eqv_i (Term.int_eval 11) c35))
  have BT11 := Fld.start ((fld_at et11).symm.trans (own_eqr et4 c36))
  have OR4 := Fld.start ((fld_at et4).symm.trans (eqv_i (Term.int_eval 4) c37))
  have BT4 := Fld.start ((fld_at et4).symm.trans (own_eqr et3 c38))
  have BT3 := Fld.start ((fld_at et3).symm.trans (own_eqr et0 c39))
  have OR8 := Fld.start ((fld_at et8).symm.trans (eqv_i (Term.int_eval 8) c40))
  have OR6 := Fld.start ((fld_at et6).symm.trans (eqv_i (Term.int_eval 6) c41))
  have BT8 := Fld.start ((fld_at et8).symm.trans (own_eqr et7 c42))
  have OR7 := Fld.start ((fld_at et7).symm.trans (eqv_i (Term.int_eval 7) c43))
  have BT7 := Fld.start ((fld_at et7).symm.trans (own_eqr et4 c44))
  have OR21 := Fld.start ((fld_at et21).symm.trans (eqv_i (Term.int_eval 21) c45))
  have BT6 := Fld.start ((fld_at et6).symm.trans (own_eqr et5 c46))
  have OR5 := Fld.start ((fld_at et5).symm.trans (eqv_i (Term.int_eval 5) c47))
  have BT5 := Fld.start ((fld_at et5).symm.trans (own_eqr et4 c48))
  have OR20 := Fld.start ((fld_at et20).symm.trans (eqv_i (Term.int_eval 20) c49))
  have OR22 := Fld.start ((fld_at et22).symm.trans (eqv_i (Term.int_eval 22) c50))
  have OR19 := Fld.start ((fld_at et19).symm.trans (eqv_i (Term.int_eval 19) c51))
  have OR15 := Fld.start ((fld_at et15).symm.trans (eqv_i (Term.int_eval 15) c52))
  have BT19 := Fld.start ((fld_at et19).symm.trans (own_eqr et0 c53))
  have OR9 := Fld.start ((fld_at et9).symm.trans (eqv_i (Term.int_eval 9) c54))
  have BT9 := Fld.start ((fld_at et9).symm.trans (own_eqr et8 c55))
  have BT21 := Fld.start ((fld_at et21).symm.trans (own_eqr et0 c56))
  have BT15 := Fld.start ((fld_at et15).symm.trans (own_eqr et14 c57))
  have OR10 := Fld.start ((fld_at et10).symm.trans (eqv_i (Term.int_eval 10) c58))
  have OR2 := Fld.start ((fld_at et2).symm.trans (eqv_i (Term.int_eval 2) c59))
  have BT1 := Fld.start ((fld_at et1).symm.trans (own_eqr et0 c60))
  have BT2 := Fld.start ((fld_at et2).symm.trans (own_eqr et0 c61))
  have BT20 := Fld.start ((fld_at et20).symm.trans (own_eqr et0 c62))
  have OR17 := Fld.start ((fld_at et17).symm.trans (eqv_i (Term.int_eval 17) c63))
  have BT17 := Fld.start ((fld_at et17).symm.trans (own_eqr et0 c64))
  have OR24 := Fld.start ((fld_at et24).symm.trans (eqv_i (Term.int_eval 24) c65))
  have BT24 := Fld.start ((fld_at et24).symm.trans (own_eqr et0 c66))
  have BT10 := Fld.start ((fld_at et10).symm.trans (own_eqr et9 c67))
  have BT22 := Fld.start ((fld_at et22).symm.trans (own_eqr et0 c68))
  have OR16 := Fld.start ((fld_at et16).symm.trans (eqv_i (Term.int_eval 16) c69))
  have BT16 := Fld.start ((fld_at et16).symm.trans (own_eqr et11 c70))
  have OR18 := Fld.start ((fld_at et18).symm.trans (eqv_i (Term.int_eval 18) c71))
  have BT18 := Fld.start ((fld_at et18).symm.trans (own_eqr et0 c72))
  have OR23 := Fld.start ((fld_at et23).symm.trans (eqv_i (Term.int_eval 23) c73))
  have BT23 := Fld.start ((fld_at et23).symm.trans (own_eqr et0 m73))
  obtain ⟨tt, htt⟩ : ∃ tt : Nat → Addr, tt = (fun k => ([t0, t1, t2, t3, t4, t5, t6, t7, t8, t9, t10, t11, t12, t13, t14, t15, t16, t17, t18, t19, t20, t21, t22, t23, t24] : List Addr).getD k 0) := ⟨_, rfl⟩
  have EX : ∀ k, k < 25 → Exa s s.heap (tt k) "com/example/kennet/kennet/xdm/AtomicType" := by rw [htt]; exact fun | 0, _ => EX0 | 1, _ => EX1 | 2, _ => EX2 | 3, _ => EX3 | 4, _ => EX4 | 5, _ => EX5 | 6, _ => EX6 | 7, _ => EX7 | 8, _ => EX8 | 9, _ => EX9 | 10, _ => EX10 | 11, _ => EX11 | 12, _ => EX12 | 13, _ => EX13 | 14, _ => EX14 | 15, _ => EX15 | 16, _ => EX16 | 17, _ => EX17 | 18, _ => EX18 | 19, _ => EX19 | 20, _ => EX20 | 21, _ => EX21 | 22, _ => EX22 | 23, _ => EX23 | 24, _ => EX24 | n + 25, h => absurd h (by omega)
  have OR : ∀ k, k < 25 → Fld s s.heap (tt k) "java/lang/Enum" "ordinal" "I" (.int (Int32.ofNat k)) := by rw [htt]; exact fun | 0, _ => OR0 | 1, _ => OR1 | 2, _ => OR2 | 3, _ => OR3 | 4, _ => OR4 | 5, _ => OR5 | 6, _ => OR6 | 7, _ => OR7 | 8, _ => OR8 | 9, _ => OR9 | 10, _ => OR10 | 11, _ => OR11 | 12, _ => OR12 | 13, _ => OR13 | 14, _ => OR14 | 15, _ => OR15 | 16, _ => OR16 | 17, _ => OR17 | 18, _ => OR18 | 19, _ => OR19 | 20, _ => OR20 | 21, _ => OR21 | 22, _ => OR22 | 23, _ => OR23 | 24, _ => OR24 | n + 25, h => absurd h (by omega)
  have BT : ∀ k, k < 25 → Fld s s.heap (tt k) "com/example/kennet/kennet/xdm/AtomicType" "baseType" "Lcom/example/kennet/kennet/xdm/AtomicType;" (own_par tt k) := by rw [htt]; exact fun | 0, _ => BT0 | 1, _ => BT1 | 2, _ => BT2 | 3, _ => BT3 | 4, _ => BT4 | 5, _ => BT5 | 6, _ => BT6 | 7, _ => BT7 | 8, _ => BT8 | 9, _ => BT9 | 10, _ => BT10 | 11, _ => BT11 | 12, _ => BT12 | 13, _ => BT13 | 14, _ => BT14 | 15, _ => BT15 | 16, _ => BT16 | 17, _ => BT17 | 18, _ => BT18 | 19, _ => BT19 | 20, _ => BT20 | 21, _ => BT21 | 22, _ => BT22 | 23, _ => BT23 | 24, _ => BT24 | n + 25, h => absurd h (by omega)
  have BS_ANY_ATOMIC_TYPE : Sta s s.heap "com/example/kennet/kennet/xdm/AtomicType" "ANY_ATOMIC_TYPE" "Lcom/example/kennet/kennet/xdm/AtomicType;" (.ref (tt 0)) := by rw [htt]; exact BS_ANY_ATOMIC_TYPE
  have BS_STRING : Sta s s.heap "com/example/kennet/kennet/xdm/AtomicType" "STRING" "Lcom/example/kennet/kennet/xdm/AtomicType;" (.ref (tt 1)) := by rw [htt]; exact BS_STRING
  have BS_BOOLEAN : Sta s s.heap "com/example/kennet/kennet/xdm/AtomicType" "BOOLEAN" "Lcom/example/kennet/kennet/xdm/AtomicType;" (.ref (tt 2)) := by rw [htt]; exact BS_BOOLEAN
  have BS_DECIMAL : Sta s s.heap "com/example/kennet/kennet/xdm/AtomicType" "DECIMAL" "Lcom/example/kennet/kennet/xdm/AtomicType;" (.ref (tt 3)) := by rw [htt]; exact BS_DECIMAL
  have BS_INTEGER : Sta s s.heap "com/example/kennet/kennet/xdm/AtomicType" "INTEGER" "Lcom/example/kennet/kennet/xdm/AtomicType;" (.ref (tt 4)) := by rw [htt]; exact BS_INTEGER
  have BS_NON_POSITIVE_INTEGER : Sta s s.heap "com/example/kennet/kennet/xdm/AtomicType" "NON_POSITIVE_INTEGER" "Lcom/example/kennet/kennet/xdm/AtomicType;" (.ref (tt 5)) := by rw [htt]; exact BS_NON_POSITIVE_INTEGER
  have BS_NEGATIVE_INTEGER : Sta s s.heap "com/example/kennet/kennet/xdm/AtomicType" "NEGATIVE_INTEGER" "Lcom/example/kennet/kennet/xdm/AtomicType;" (.ref (tt 6)) := by rw [htt]; exact BS_NEGATIVE_INTEGER
  have BS_LONG : Sta s s.heap "com/example/kennet/kennet/xdm/AtomicType" "LONG" "Lcom/example/kennet/kennet/xdm/AtomicType;" (.ref (tt 7)) := by rw [htt]; exact BS_LONG
  have BS_INT : Sta s s.heap "com/example/kennet/kennet/xdm/AtomicType" "INT" "Lcom/example/kennet/kennet/xdm/AtomicType;" (.ref (tt 8)) := by rw [htt]; exact BS_INT
  have BS_SHORT : Sta s s.heap "com/example/kennet/kennet/xdm/AtomicType" "SHORT" "Lcom/example/kennet/kennet/xdm/AtomicType;" (.ref (tt 9)) := by rw [htt]; exact BS_SHORT
  have BS_BYTE : Sta s s.heap "com/example/kennet/kennet/xdm/AtomicType" "BYTE" "Lcom/example/kennet/kennet/xdm/AtomicType;" (.ref (tt 10)) := by rw [htt]; exact BS_BYTE
  have BS_NON_NEGATIVE_INTEGER : Sta s s.heap "com/example/kennet/kennet/xdm/AtomicType" "NON_NEGATIVE_INTEGER" "Lcom/example/kennet/kennet/xdm/AtomicType;" (.ref (tt 11)) := by rw [htt]; exact BS_NON_NEGATIVE_INTEGER
  have BS_UNSIGNED_LONG : Sta s s.heap "com/example/kennet/kennet/xdm/AtomicType" "UNSIGNED_LONG" "Lcom/example/kennet/kennet/xdm/AtomicType;" (.ref (tt 12)) := by rw [htt]; exact BS_UNSIGNED_LONG
  have BS_UNSIGNED_INT : Sta s s.heap "com/example/kennet/kennet/xdm/AtomicType" "UNSIGNED_INT" "Lcom/example/kennet/kennet/xdm/AtomicType;" (.ref (tt 13)) := by rw [htt]; exact BS_UNSIGNED_INT
  have BS_UNSIGNED_SHORT : Sta s s.heap "com/example/kennet/kennet/xdm/AtomicType" "UNSIGNED_SHORT" "Lcom/example/kennet/kennet/xdm/AtomicType;" (.ref (tt 14)) := by rw [htt]; exact BS_UNSIGNED_SHORT
  have BS_UNSIGNED_BYTE : Sta s s.heap "com/example/kennet/kennet/xdm/AtomicType" "UNSIGNED_BYTE" "Lcom/example/kennet/kennet/xdm/AtomicType;" (.ref (tt 15)) := by rw [htt]; exact BS_UNSIGNED_BYTE
  have BS_POSITIVE_INTEGER : Sta s s.heap "com/example/kennet/kennet/xdm/AtomicType" "POSITIVE_INTEGER" "Lcom/example/kennet/kennet/xdm/AtomicType;" (.ref (tt 16)) := by rw [htt]; exact BS_POSITIVE_INTEGER
  have BS_FLOAT : Sta s s.heap "com/example/kennet/kennet/xdm/AtomicType" "FLOAT" "Lcom/example/kennet/kennet/xdm/AtomicType;" (.ref (tt 17)) := by rw [htt]; exact BS_FLOAT
  have BS_DOUBLE : Sta s s.heap "com/example/kennet/kennet/xdm/AtomicType" "DOUBLE" "Lcom/example/kennet/kennet/xdm/AtomicType;" (.ref (tt 18)) := by rw [htt]; exact BS_DOUBLE
  have BS_UNTYPED_ATOMIC : Sta s s.heap "com/example/kennet/kennet/xdm/AtomicType" "UNTYPED_ATOMIC" "Lcom/example/kennet/kennet/xdm/AtomicType;" (.ref (tt 19)) := by rw [htt]; exact BS_UNTYPED_ATOMIC
  have BS_ANY_URI : Sta s s.heap "com/example/kennet/kennet/xdm/AtomicType" "ANY_URI" "Lcom/example/kennet/kennet/xdm/AtomicType;" (.ref (tt 20)) := by rw [htt]; exact BS_ANY_URI
  have BS_QNAME : Sta s s.heap "com/example/kennet/kennet/xdm/AtomicType" "QNAME" "Lcom/example/kennet/kennet/xdm/AtomicType;" (.ref (tt 21)) := by rw [htt]; exact BS_QNAME
  have BS_HEX_BINARY : Sta s s.heap "com/example/kennet/kennet/xdm/AtomicType" "HEX_BINARY" "Lcom/example/kennet/kennet/xdm/AtomicType;" (.ref (tt 22)) := by rw [htt]; exact BS_HEX_BINARY
  have BS_BASE64_BINARY : Sta s s.heap "com/example/kennet/kennet/xdm/AtomicType" "BASE64_BINARY" "Lcom/example/kennet/kennet/xdm/AtomicType;" (.ref (tt 23)) := by rw [htt]; exact BS_BASE64_BINARY
  have BS_DATE : Sta s s.heap "com/example/kennet/kennet/xdm/AtomicType" "DATE" "Lcom/example/kennet/kennet/xdm/AtomicType;" (.ref (tt 24)) := by rw [htt]; exact BS_DATE
  obtain ⟨n, o, h1, h2, h3, _, L, rfl, ⟨rfl, N⟩, hq⟩ := rm0 l s _ hw tables_1 i0 i1 tt s.heap s.heap.size (Nat.le_refl _) EX OR BT BS_ANY_ATOMIC_TYPE BS_STRING BS_BOOLEAN BS_DECIMAL BS_INTEGER BS_NON_POSITIVE_INTEGER BS_NEGATIVE_INTEGER BS_LONG BS_INT BS_SHORT BS_BYTE BS_NON_NEGATIVE_INTEGER BS_UNSIGNED_LONG BS_UNSIGNED_INT BS_UNSIGNED_SHORT BS_UNSIGNED_BYTE BS_POSITIVE_INTEGER BS_FLOAT BS_DOUBLE BS_UNTYPED_ATOMIC BS_ANY_URI BS_QNAME BS_HEX_BINARY BS_BASE64_BINARY BS_DATE (Old.start s) p e ha hc hk s m _ below hf ((Spec.applies_iff_loose hf).mp happ).1 ⟨rfl, State.Warmed39.refl s, rfl⟩ trivial
  refine ⟨n, _, h1, h2, h3, hpost _ _ _ _ _ _ ⟨Cond.after_iff.mpr rfl, Cond.after_iff.mpr (eq_i res_at (Term.int_eval (1)) rfl), trivial⟩ ⟨hq.1, hq.2.1, (hq.2.2.sift fun y hy => Or.inr (N y hy)).mono (by decide) (by decide)⟩⟩
theorem main_1_1 : Claimed_1_1 := comes_1 fun _ _ _ _ _ _ h hF => ⟨h.1, hF⟩
theorem main_1_2 : Claimed_1_2 := comes_1 fun _ _ _ _ _ _ h hF => ⟨h.2.1, hF⟩
end Jvm.Pilot.@@N@@
namespace Jvm.Pilot.@@N@@
open Jvm Jvm.ClassFile Sem Op Lib Jvm.Free Jvm.Stand Jvm.Pilot.@@N@@.Jvm.D
/-! MADE BY PROGRAM (witnessworld.py) out of the Statement's table words and the real class files: 13 classes; the members and pool entries that the words name. The judged class is class 1, her method 1. -/
namespace start1
open Jvm.ClassFile
def u (s : String) : CpInfo := .utf8 (stringToUtf16 s)
/-- a pool by its gaps: so many unusable entries, then the entry; so many at the end -/
def gap : Nat → List CpInfo → List CpInfo
  | 0, r => r
  | n + 1, r => .unusable :: gap n r
def poolList (es : List (Nat × CpInfo)) (last : Nat) : List CpInfo := es.foldr (fun e r => gap e.1 (e.2 :: r)) (gap last [])
def pool (es : List (Nat × CpInfo)) (last : Nat) : Array CpInfo := ⟨poolList es last⟩
def fileOf (pool : Array CpInfo) (this : Nat) (attrs : Array Attribute := #[]) (ms : Array MethodInfo := #[]) (fl : Nat := 33) (sup : Nat := 0) (ifs : Array Nat := #[]) (fds : Array FieldInfo := #[]) : ClassFile where
  minorVersion := 0
  majorVersion := 65
  constantPool := pool
  accessFlags := fl
  thisClass := this
  superClass := sup
  interfaces := ifs
  fields := fds
  methods := ms
  attributes := attrs
def plain (name : String) (sup : Option ClassId) : Class where
  name := name
  kind := .ordinary
  loader := none
  accessFlags := 33
  super := sup
  interfaces := #[]
  cf := none
  fields := #[]
  methods := #[]
  instanceTypes := #[]
  staticTypes := #[]
  resolved := #[]
  callSites := []
  init := .initialized
  statics := none
  mirror := none

def pool0 : Array CpInfo := pool [(5, u "<init>"), (0, u "()V"), (1, .class_ 10), (1, u "java/lang/Object")] 113

def k0m0 : Method := { name := "<init>", desc := "()V", sig := { parameters := [], returnType := none }, accessFlags := 1, code := none }
/-- java/lang/Object -/
def k0 : Class := { plain "java/lang/Object" none with
  accessFlags := 33
  interfaces := #[]
  cf := some (fileOf pool0 8 #[] #[{ accessFlags := 1, nameIndex := 5, descriptorIndex := 6, attributes := #[] }] 33 0 #[] #[])
  fields := #[]
  methods := #[k0m0]
  instanceTypes := #[]
  staticTypes := #[]
  resolved := Array.replicate 124 none
  statics := none }

def pool1 : Array CpInfo := pool [(2, .class_ 4), (1, u "java/lang/Object"), (0, u "<init>"), (0, u "()V"), (0, .class_ 8), (0, u "com/example/kennet/kennet/xdm/AtomicType"), (0, .fieldref 7 10), (0, .nameAndType 11 12), (0, u "ANY_ATOMIC_TYPE"), (0, u "Lcom/example/kennet/kennet/xdm/AtomicType;"), (0, .fieldref 7 14), (0, .nameAndType 15 12), (0, u "STRING"), (0, .fieldref 7 17), (0, .nameAndType 18 12), (0, u "BOOLEAN"), (0, .fieldref 7 20), (0, .nameAndType 21 12), (0, u "DECIMAL"), (0, .fieldref 7 23), (0, .nameAndType 24 12), (0, u "INTEGER"), (0, .fieldref 7 26), (0, .nameAndType 27 12), (0, u "NON_POSITIVE_INTEGER"), (0, .fieldref 7 29), (0, .nameAndType 30 12), (0, u "NEGATIVE_INTEGER"), (0, .fieldref 7 32), (0, .nameAndType 33 12), (0, u "LONG"), (0, .fieldref 7 35), (0, .nameAndType 36 12), (0, u "INT"), (0, .fieldref 7 38), (0, .nameAndType 39 12), (0, u "SHORT"), (0, .fieldref 7 41), (0, .nameAndType 42 12), (0, u "BYTE"), (0, .fieldref 7 44), (0, .nameAndType 45 12), (0, u "NON_NEGATIVE_INTEGER"), (0, .fieldref 7 47), (0, .nameAndType 48 12), (0, u "UNSIGNED_LONG"), (0, .fieldref 7 50), (0, .nameAndType 51 12), (0, u "UNSIGNED_INT"), (0, .fieldref 7 53), (0, .nameAndType 54 12), (0, u "UNSIGNED_SHORT"), (0, .fieldref 7 56), (0, .nameAndType 57 12), (0, u "UNSIGNED_BYTE"), (0, .fieldref 7 59), (0, .nameAndType 60 12), (0, u "POSITIVE_INTEGER"), (0, .fieldref 7 62), (0, .nameAndType 63 12), (0, u "FLOAT"), (0, .fieldref 7 65), (0, .nameAndType 66 12), (0, u "DOUBLE"), (0, .fieldref 7 68), (0, .nameAndType 69 12), (0, u "UNTYPED_ATOMIC"), (0, .fieldref 7 71), (0, .nameAndType 72 12), (0, u "ANY_URI"), (0, .fieldref 7 74), (0, .nameAndType 75 12), (0, u "QNAME"), (0, .fieldref 7 77), (0, .nameAndType 78 12), (0, u "HEX_BINARY"), (0, .fieldref 7 80), (0, .nameAndType 81 12), (0, u "BASE64_BINARY"), (0, .fieldref 7 83), (0, .nameAndType 84 12), (0, u "DATE"), (0, .integer 63513), (0, .integer 67609), (0, .integer 131073), (0, .integer 262145), (0, .integer 524289), (0, .integer 1048577), (0, .integer 2097153), (0, .integer 4194305), (0, .integer 8388609), (0, .integer 16777217), (0, .integer 2147483647), (0, .methodref 7 97), (0, .nameAndType 98 99), (0, u "isSubtypeOf"), (0, u "(Lcom/example/kennet/kennet/xdm/AtomicType;)Z"), (0, .class_ 101), (0, u "com/example/kennet/kennet/xdm/AtomicTypeIsSubtypeOfPinLaw"), (2, u "law"), (0, u "(II)Z")] 7

def k1m0 : Method := { name := "<init>", desc := "()V", sig := { parameters := [], returnType := none }, accessFlags := 1, code := none }
def k1c1 : Code := { maxStack := 4, maxLocals := 7, code := code, exceptionTable := #[], attributes := #[] }
def k1m1 : Method := { name := "law", desc := "(II)Z", sig := { parameters := [.int, .int], returnType := some .boolean }, accessFlags := 9, code := some k1c1 }
/-- com/example/kennet/kennet/xdm/AtomicTypeIsSubtypeOfPinLaw -/
def k1 : Class := { plain "com/example/kennet/kennet/xdm/AtomicTypeIsSubtypeOfPinLaw" (some 0) with
  accessFlags := 49
  interfaces := #[]
  cf := some (fileOf pool1 100 #[] #[{ accessFlags := 1, nameIndex := 5, descriptorIndex := 6, attributes := #[] }, { accessFlags := 9, nameIndex := 104, descriptorIndex := 105, attributes := #[] }] 49 2 #[] #[])
  fields := #[]
  methods := #[k1m0, k1m1]
  instanceTypes := #[]
  staticTypes := #[]
  resolved := Array.replicate 113 none
  statics := none }

def pool2 : Array CpInfo := pool [(1, .class_ 2), (0, u "java/lang/constant/Constable"), (0, .class_ 4), (0, u "java/lang/Object")] 6

/-- java/lang/constant/Constable -/
def k2 : Class := { plain "java/lang/constant/Constable" (some 0) with
  accessFlags := 1537
  interfaces := #[]
  cf := some (fileOf pool2 1 #[] #[] 1537 3 #[] #[])
  fields := #[]
  methods := #[]
  instanceTypes := #[]
  staticTypes := #[]
  resolved := Array.replicate 11 none
  statics := none }

def pool3 : Array CpInfo := pool [(1, .class_ 2), (0, u "java/lang/Comparable"), (0, .class_ 4), (0, u "java/lang/Object")] 7

/-- java/lang/Comparable -/
def k3 : Class := { plain "java/lang/Comparable" (some 0) with
  accessFlags := 1537
  interfaces := #[]
  cf := some (fileOf pool3 1 #[] #[] 1537 3 #[] #[])
  fields := #[]
  methods := #[]
  instanceTypes := #[]
  staticTypes := #[]
  resolved := Array.replicate 12 none
  statics := none }

def pool4 : Array CpInfo := pool [(1, .class_ 2), (0, u "java/io/Serializable"), (0, .class_ 4), (0, u "java/lang/Object")] 2

/-- java/io/Serializable -/
def k4 : Class := { plain "java/io/Serializable" (some 0) with
  accessFlags := 1537
  interfaces := #[]
  cf := some (fileOf pool4 1 #[] #[] 1537 3 #[] #[])
  fields := #[]
  methods := #[]
  instanceTypes := #[]
  staticTypes := #[]
  resolved := Array.replicate 7 none
  statics := none }

def pool5 : Array CpInfo := pool [(2, .class_ 4), (1, u "java/lang/Enum"), (0, u "name"), (0, u "Ljava/lang/String;"), (2, u "ordinal"), (0, u "I"), (1, .class_ 14), (1, u "java/lang/Object"), (4, u "hash"), (86, .class_ 108), (1, u "java/lang/Enum$EnumDesc"), (2, .class_ 112), (0, u "java/lang/constant/Constable"), (0, .class_ 114), (0, u "java/lang/Comparable"), (0, .class_ 116), (0, u "java/io/Serializable")] 87

/-- java/lang/Enum -/
def k5 : Class := { plain "java/lang/Enum" (some 0) with
  accessFlags := 1057
  interfaces := #[2, 3, 4]
  cf := some (fileOf pool5 2 #[.nestMembers #[106]] #[] 1057 12 #[111, 113, 115] #[{ accessFlags := 18, nameIndex := 5, descriptorIndex := 6, attributes := #[] }, { accessFlags := 18, nameIndex := 9, descriptorIndex := 10, attributes := #[] }, { accessFlags := 2, nameIndex := 19, descriptorIndex := 10, attributes := #[] }])
  fields := #[{ name := "name", type := (.object "java/lang/String"), accessFlags := 18, slot := 0, constantValue := 0 }, { name := "ordinal", type := .int, accessFlags := 18, slot := 1, constantValue := 0 }, { name := "hash", type := .int, accessFlags := 2, slot := 2, constantValue := 0 }]
  methods := #[]
  instanceTypes := #[(.object "java/lang/String"), .int, .int]
  staticTypes := #[]
  resolved := Array.replicate 204 none
  statics := none }

def pool6 : Array CpInfo := pool [(1, .class_ 2), (0, u "com/example/kennet/kennet/xdm/AtomicType"), (2, u "ANY_ATOMIC_TYPE"), (0, u "Lcom/example/kennet/kennet/xdm/AtomicType;"), (2, u "STRING"), (2, u "BOOLEAN"), (2, u "DECIMAL"), (2, u "INTEGER"), (2, u "NON_POSITIVE_INTEGER"), (2, u "NEGATIVE_INTEGER"), (2, u "LONG"), (2, u "INT"), (2, u "SHORT"), (2, u "BYTE"), (2, u "NON_NEGATIVE_INTEGER"), (2, u "UNSIGNED_LONG"), (2, u "UNSIGNED_INT"), (2, u "UNSIGNED_SHORT"), (2, u "UNSIGNED_BYTE"), (2, u "POSITIVE_INTEGER"), (2, u "FLOAT"), (2, u "DOUBLE"), (2, u "UNTYPED_ATOMIC"), (2, u "ANY_URI"), (2, u "QNAME"), (2, u "HEX_BINARY"), (2, u "BASE64_BINARY"), (2, u "DATE"), (2, u "$VALUES"), (0, u "[Lcom/example/kennet/kennet/xdm/AtomicType;"), (6, .class_ 91), (1, u "java/lang/Enum"), (11, u "localName"), (0, u "Ljava/lang/String;"), (0, .fieldref 1 106), (0, .nameAndType 107 6), (0, u "baseType"), (7, u "minInclusive"), (0, u "Ljava/math/BigInteger;"), (2, u "maxInclusive"), (12, u "isSubtypeOf"), (0, u "(Lcom/example/kennet/kennet/xdm/AtomicType;)Z"), (123, u "NAMESPACE")] 41

def k6c0 : Code := { maxStack := 2, maxLocals := 3, code := prog_35_method_7_code, exceptionTable := #[], attributes := #[] }
def k6m0 : Method := { name := "isSubtypeOf", desc := "(Lcom/example/kennet/kennet/xdm/AtomicType;)Z", sig := { parameters := [(.object "com/example/kennet/kennet/xdm/AtomicType")], returnType := some .boolean }, accessFlags := 1, code := some k6c0 }
/-- com/example/kennet/kennet/xdm/AtomicType -/
def k6 : Class := { plain "com/example/kennet/kennet/xdm/AtomicType" (some 5) with
  accessFlags := 16433
  interfaces := #[]
  cf := some (fileOf pool6 1 #[] #[{ accessFlags := 1, nameIndex := 132, descriptorIndex := 133, attributes := #[] }] 16433 89 #[] #[{ accessFlags := 16409, nameIndex := 5, descriptorIndex := 6, attributes := #[] }, { accessFlags := 16409, nameIndex := 9, descriptorIndex := 6, attributes := #[] }, { accessFlags := 16409, nameIndex := 12, descriptorIndex := 6, attributes := #[] }, { accessFlags := 16409, nameIndex := 15, descriptorIndex := 6, attributes := #[] }, { accessFlags := 16409, nameIndex := 18, descriptorIndex := 6, attributes := #[] }, { accessFlags := 16409, nameIndex := 21, descriptorIndex := 6, attributes := #[] }, { accessFlags := 16409, nameIndex := 24, descriptorIndex := 6, attributes := #[] }, { accessFlags := 16409, nameIndex := 27, descriptorIndex := 6, attributes := #[] }, { accessFlags := 16409, nameIndex := 30, descriptorIndex := 6, attributes := #[] }, { accessFlags := 16409, nameIndex := 33, descriptorIndex := 6, attributes := #[] }, { accessFlags := 16409, nameIndex := 36, descriptorIndex := 6, attributes := #[] }, { accessFlags := 16409, nameIndex := 39, descriptorIndex := 6, attributes := #[] }, { accessFlags := 16409, nameIndex := 42, descriptorIndex := 6, attributes := #[] }, { accessFlags := 16409, nameIndex := 45, descriptorIndex := 6, attributes := #[] }, { accessFlags := 16409, nameIndex := 48, descriptorIndex := 6, attributes := #[] }, { accessFlags := 16409, nameIndex := 51, descriptorIndex := 6, attributes := #[] }, { accessFlags := 16409, nameIndex := 54, descriptorIndex := 6, attributes := #[] }, { accessFlags := 16409, nameIndex := 57, descriptorIndex := 6, attributes := #[] }, { accessFlags := 16409, nameIndex := 60, descriptorIndex := 6, attributes := #[] }, { accessFlags := 16409, nameIndex := 63, descriptorIndex := 6, attributes := #[] }, { accessFlags := 16409, nameIndex := 66, descriptorIndex := 6, attributes := #[] }, { accessFlags := 16409, nameIndex := 69, descriptorIndex := 6, attributes := #[] }, { accessFlags := 16409, nameIndex := 72, descriptorIndex := 6, attributes := #[] }, { accessFlags := 16409, nameIndex := 75, descriptorIndex := 6, attributes := #[] }, { accessFlags := 16409, nameIndex := 78, descriptorIndex := 6, attributes := #[] }, { accessFlags := 25, nameIndex := 257, descriptorIndex := 104, attributes := #[] }, { accessFlags := 18, nameIndex := 103, descriptorIndex := 104, attributes := #[] }, { accessFlags := 18, nameIndex := 107, descriptorIndex := 6, attributes := #[] }, { accessFlags := 18, nameIndex := 115, descriptorIndex := 116, attributes := #[] }, { accessFlags := 18, nameIndex := 119, descriptorIndex := 116, attributes := #[] }, { accessFlags := 4122, nameIndex := 81, descriptorIndex := 82, attributes := #[] }])
  fields := #[{ name := "ANY_ATOMIC_TYPE", type := (.object "com/example/kennet/kennet/xdm/AtomicType"), accessFlags := 16409, slot := 0, constantValue := 0 }, { name := "STRING", type := (.object "com/example/kennet/kennet/xdm/AtomicType"), accessFlags := 16409, slot := 1, constantValue := 0 }, { name := "BOOLEAN", type := (.object "com/example/kennet/kennet/xdm/AtomicType"), accessFlags := 16409, slot := 2, constantValue := 0 }, { name := "DECIMAL", type := (.object "com/example/kennet/kennet/xdm/AtomicType"), accessFlags := 16409, slot := 3, constantValue := 0 }, { name := "INTEGER", type := (.object "com/example/kennet/kennet/xdm/AtomicType"), accessFlags := 16409, slot := 4, constantValue := 0 }, { name := "NON_POSITIVE_INTEGER", type := (.object "com/example/kennet/kennet/xdm/AtomicType"), accessFlags := 16409, slot := 5, constantValue := 0 }, { name := "NEGATIVE_INTEGER", type := (.object "com/example/kennet/kennet/xdm/AtomicType"), accessFlags := 16409, slot := 6, constantValue := 0 }, { name := "LONG", type := (.object "com/example/kennet/kennet/xdm/AtomicType"), accessFlags := 16409, slot := 7, constantValue := 0 }, { name := "INT", type := (.object "com/example/kennet/kennet/xdm/AtomicType"), accessFlags := 16409, slot := 8, constantValue := 0 }, { name := "SHORT", type := (.object "com/example/kennet/kennet/xdm/AtomicType"), accessFlags := 16409, slot := 9, constantValue := 0 }, { name := "BYTE", type := (.object "com/example/kennet/kennet/xdm/AtomicType"), accessFlags := 16409, slot := 10, constantValue := 0 }, { name := "NON_NEGATIVE_INTEGER", type := (.object "com/example/kennet/kennet/xdm/AtomicType"), accessFlags := 16409, slot := 11, constantValue := 0 }, { name := "UNSIGNED_LONG", type := (.object "com/example/kennet/kennet/xdm/AtomicType"), accessFlags := 16409, slot := 12, constantValue := 0 }, { name := "UNSIGNED_INT", type := (.object "com/example/kennet/kennet/xdm/AtomicType"), accessFlags := 16409, slot := 13, constantValue := 0 }, { name := "UNSIGNED_SHORT", type := (.object "com/example/kennet/kennet/xdm/AtomicType"), accessFlags := 16409, slot := 14, constantValue := 0 }, { name := "UNSIGNED_BYTE", type := (.object "com/example/kennet/kennet/xdm/AtomicType"), accessFlags := 16409, slot := 15, constantValue := 0 }, { name := "POSITIVE_INTEGER", type := (.object "com/example/kennet/kennet/xdm/AtomicType"), accessFlags := 16409, slot := 16, constantValue := 0 }, { name := "FLOAT", type := (.object "com/example/kennet/kennet/xdm/AtomicType"), accessFlags := 16409, slot := 17, constantValue := 0 }, { name := "DOUBLE", type := (.object "com/example/kennet/kennet/xdm/AtomicType"), accessFlags := 16409, slot := 18, constantValue := 0 }, { name := "UNTYPED_ATOMIC", type := (.object "com/example/kennet/kennet/xdm/AtomicType"), accessFlags := 16409, slot := 19, constantValue := 0 }, { name := "ANY_URI", type := (.object "com/example/kennet/kennet/xdm/AtomicType"), accessFlags := 16409, slot := 20, constantValue := 0 }, { name := "QNAME", type := (.object "com/example/kennet/kennet/xdm/AtomicType"), accessFlags := 16409, slot := 21, constantValue := 0 }, { name := "HEX_BINARY", type := (.object "com/example/kennet/kennet/xdm/AtomicType"), accessFlags := 16409, slot := 22, constantValue := 0 }, { name := "BASE64_BINARY", type := (.object "com/example/kennet/kennet/xdm/AtomicType"), accessFlags := 16409, slot := 23, constantValue := 0 }, { name := "DATE", type := (.object "com/example/kennet/kennet/xdm/AtomicType"), accessFlags := 16409, slot := 24, constantValue := 0 }, { name := "NAMESPACE", type := (.object "java/lang/String"), accessFlags := 25, slot := 25, constantValue := 0 }, { name := "localName", type := (.object "java/lang/String"), accessFlags := 18, slot := 3, constantValue := 0 }, { name := "baseType", type := (.object "com/example/kennet/kennet/xdm/AtomicType"), accessFlags := 18, slot := 4, constantValue := 0 }, { name := "minInclusive", type := (.object "java/math/BigInteger"), accessFlags := 18, slot := 5, constantValue := 0 }, { name := "maxInclusive", type := (.object "java/math/BigInteger"), accessFlags := 18, slot := 6, constantValue := 0 }, { name := "$VALUES", type := (.array (.object "com/example/kennet/kennet/xdm/AtomicType")), accessFlags := 4122, slot := 26, constantValue := 0 }]
  methods := #[k6m0]
  instanceTypes := #[(.object "java/lang/String"), .int, .int, (.object "java/lang/String"), (.object "com/example/kennet/kennet/xdm/AtomicType"), (.object "java/math/BigInteger"), (.object "java/math/BigInteger")]
  staticTypes := #[(.object "com/example/kennet/kennet/xdm/AtomicType"), (.object "com/example/kennet/kennet/xdm/AtomicType"), (.object "com/example/kennet/kennet/xdm/AtomicType"), (.object "com/example/kennet/kennet/xdm/AtomicType"), (.object "com/example/kennet/kennet/xdm/AtomicType"), (.object "com/example/kennet/kennet/xdm/AtomicType"), (.object "com/example/kennet/kennet/xdm/AtomicType"), (.object "com/example/kennet/kennet/xdm/AtomicType"), (.object "com/example/kennet/kennet/xdm/AtomicType"), (.object "com/example/kennet/kennet/xdm/AtomicType"), (.object "com/example/kennet/kennet/xdm/AtomicType"), (.object "com/example/kennet/kennet/xdm/AtomicType"), (.object "com/example/kennet/kennet/xdm/AtomicType"), (.object "com/example/kennet/kennet/xdm/AtomicType"), (.object "com/example/kennet/kennet/xdm/AtomicType"), (.object "com/example/kennet/kennet/xdm/AtomicType"), (.object "com/example/kennet/kennet/xdm/AtomicType"), (.object "com/example/kennet/kennet/xdm/AtomicType"), (.object "com/example/kennet/kennet/xdm/AtomicType"), (.object "com/example/kennet/kennet/xdm/AtomicType"), (.object "com/example/kennet/kennet/xdm/AtomicType"), (.object "com/example/kennet/kennet/xdm/AtomicType"), (.object "com/example/kennet/kennet/xdm/AtomicType"), (.object "com/example/kennet/kennet/xdm/AtomicType"), (.object "com/example/kennet/kennet/xdm/AtomicType"), (.object "java/lang/String"), (.array (.object "com/example/kennet/kennet/xdm/AtomicType"))]
  resolved := Array.replicate 299 none
  statics := some 0 }

def pool7 : Array CpInfo := pool [(1, u "java/lang/Cloneable"), (0, .class_ 1), (0, u "java/lang/Object"), (0, .class_ 3)] 3

/-- java/lang/Cloneable -/
def k7 : Class := { plain "java/lang/Cloneable" (some 0) with
  accessFlags := 1537
  interfaces := #[]
  cf := some (fileOf pool7 2 #[] #[] 1537 4 #[] #[])
  fields := #[]
  methods := #[]
  instanceTypes := #[]
  staticTypes := #[]
  resolved := Array.replicate 8 none
  statics := none }

/-- the primitive byte -/
def k8 : Class := { plain "byte" none with kind := .primitive 'B', accessFlags := 0x411 }
/-- [B -/
def k9 : Class := { plain "[B" (some 0) with kind := .array 8 .byte, interfaces := #[7, 4], accessFlags := 1041 }

/-- the primitive int -/
def k10 : Class := { plain "int" none with kind := .primitive 'I', accessFlags := 0x411 }
/-- [I -/
def k11 : Class := { plain "[I" (some 0) with kind := .array 10 .int, interfaces := #[7, 4], accessFlags := 1041 }

/-- [Lcom/example/kennet/kennet/xdm/AtomicType; -/
def k12 : Class := { plain "[Lcom/example/kennet/kennet/xdm/AtomicType;" (some 0) with kind := .array 6 (.object "com/example/kennet/kennet/xdm/AtomicType"), interfaces := #[7, 4], accessFlags := 1041 }

def heap : Heap := #[{ cls := 6, slots := #[.ref 1, .ref 2, .ref 3, .ref 4, .ref 5, .ref 6, .ref 7, .ref 8, .ref 9, .ref 10, .ref 11, .ref 12, .ref 13, .ref 14, .ref 15, .ref 16, .ref 17, .ref 18, .ref 19, .ref 20, .ref 21, .ref 22, .ref 23, .ref 24, .ref 25, .null, .null], vm := .statics 6 },
  { cls := 6, slots := #[.null, .int 0, .int 0, .null, .null, .null, .null], vm := .none },
  { cls := 6, slots := #[.null, .int 1, .int 0, .null, .ref 1, .null, .null], vm := .none },
  { cls := 6, slots := #[.null, .int 2, .int 0, .null, .ref 1, .null, .null], vm := .none },
  { cls := 6, slots := #[.null, .int 3, .int 0, .null, .ref 1, .null, .null], vm := .none },
  { cls := 6, slots := #[.null, .int 4, .int 0, .null, .ref 4, .null, .null], vm := .none },
  { cls := 6, slots := #[.null, .int 5, .int 0, .null, .ref 5, .null, .null], vm := .none },
  { cls := 6, slots := #[.null, .int 6, .int 0, .null, .ref 6, .null, .null], vm := .none },
  { cls := 6, slots := #[.null, .int 7, .int 0, .null, .ref 5, .null, .null], vm := .none },
  { cls := 6, slots := #[.null, .int 8, .int 0, .null, .ref 8, .null, .null], vm := .none },
  { cls := 6, slots := #[.null, .int 9, .int 0, .null, .ref 9, .null, .null], vm := .none },
  { cls := 6, slots := #[.null, .int 10, .int 0, .null, .ref 10, .null, .null], vm := .none },
  { cls := 6, slots := #[.null, .int 11, .int 0, .null, .ref 5, .null, .null], vm := .none },
  { cls := 6, slots := #[.null, .int 12, .int 0, .null, .ref 12, .null, .null], vm := .none },
  { cls := 6, slots := #[.null, .int 13, .int 0, .null, .ref 13, .null, .null], vm := .none },
  { cls := 6, slots := #[.null, .int 14, .int 0, .null, .ref 14, .null, .null], vm := .none },
  { cls := 6, slots := #[.null, .int 15, .int 0, .null, .ref 15, .null, .null], vm := .none },
  { cls := 6, slots := #[.null, .int 16, .int 0, .null, .ref 12, .null, .null], vm := .none },
  { cls := 6, slots := #[.null, .int 17, .int 0, .null, .ref 1, .null, .null], vm := .none },
  { cls := 6, slots := #[.null, .int 18, .int 0, .null, .ref 1, .null, .null], vm := .none },
  { cls := 6, slots := #[.null, .int 19, .int 0, .null, .ref 1, .null, .null], vm := .none },
  { cls := 6, slots := #[.null, .int 20, .int 0, .null, .ref 1, .null, .null], vm := .none },
  { cls := 6, slots := #[.null, .int 21, .int 0, .null, .ref 1, .null, .null], vm := .none },
  { cls := 6, slots := #[.null, .int 22, .int 0, .null, .ref 1, .null, .null], vm := .none },
  { cls := 6, slots := #[.null, .int 23, .int 0, .null, .ref 1, .null, .null], vm := .none },
  { cls := 6, slots := #[.null, .int 24, .int 0, .null, .ref 1, .null, .null], vm := .none }]
def classes : Array Class := #[k0, k1, k2, k3, k4, k5, k6, k7, k8, k9, k10, k11, k12]
def interned : List (Array UInt16 × Addr) := []
def slotsUsed : Nat := 202
def theMethod : MethodId := ⟨1, 1⟩
def args0 : Array Value := #[.int 5, .int 6]
def aboutOver (below : List Frame) : State where
  vm := { classes := classes, interned := interned.toArray }
  heap := heap
  slotsUsed := slotsUsed
  threads := #[{ frames := .invoking theMethod args0 :: below }]
def below0 : List Frame := [.native { method := ⟨0, 0⟩, args := #[] }]
def about1 : State := aboutOver below0
def p0 : Program := .bare "" "" ""
def e0 : Env := launch0.env 0 0 0
theorem w_frames : about1.frames = Frame.invoking theMethod args0 :: below0 := rfl
set_option maxRecDepth 65536 in
theorem w_args : argsFit about1.vm theMethod args0 = true := by decide +kernel
set_option maxRecDepth 65536 in
theorem w_heap : heapFits about1 = true := by decide +kernel
set_option maxRecDepth 65536 in
theorem w_runnable : about1.curStatus? = some .runnable := by decide +kernel
set_option maxRecDepth 65536 in
theorem w_alone : about1.alone = true := by decide +kernel
set_option maxRecDepth 65536 in
theorem w_named : about1.methodNamed? x = some theMethod := by decide +kernel
set_option maxRecDepth 65536 in
theorem w_hears : about1.hears theMethod below0 = true := by decide +kernel
set_option maxRecDepth 65536 in
theorem w_ripe : about1.ripe theMethod args0 below0 = true := by decide +kernel
theorem w_running : about1.status = .running := rfl
set_option maxRecDepth 65536 in
theorem w_room : about1.hasRoom e0.platform room_1 = true :=
  launch0.hasRoom_least _ room_1 (by decide +kernel) (by decide +kernel) (by decide +kernel) (by decide +kernel) (by decide +kernel) (by decide +kernel)
theorem allAtoms_all (ts : List Jvm.Cond) (a : Array Jvm.Value) (st : Jvm.State) : (allAtoms ts).before a st = ts.all (fun c => c.before a st) := by
  induction ts with
  | nil => rfl
  | cons c t ih =>
    show (Jvm.Cond.and c (allAtoms t)).before a st = _
    rw [Jvm.Cond.before_and, ih, List.all_cons]
def words1 : List Jvm.Cond := Jvm.Cond.code x code maxLocals ret :: tables_1
/-- a 'code' word, met by the world's own term for the bytes: nothing is compared byte by byte -/
theorem code_word {y : MethodName} {bytes : ByteArray} {mx : Nat} {rt : Option FieldType} {a : Array Value} {s : State} {m : MethodId} {meth : Method} {c : Code} (h1 : s.methodNamed? y = some m) (h2 : s.vm.method? m = some meth) (h3 : meth.code = some c) (h4 : c.code = bytes)
    (h5 : (c.maxLocals == mx && c.exceptionTable.isEmpty && decide (c.maxStack ≤ mostOperands) && decide (meth.sig.returnType = rt) && !meth.locks && decide (parseMethodDescriptor y.desc = some meth.sig)) = true) : (Jvm.Cond.code y bytes mx rt).before a s = true := by
  simp only [Bool.and_eq_true, beq_iff_eq, Bool.not_eq_true', decide_eq_true_eq] at h5
  obtain ⟨⟨⟨⟨⟨g1, g2⟩, g3⟩, g4⟩, g5⟩, g6⟩ := h5
  simp [Cond.before, Cond.holds, Cond.value, h1, h2, h3, h4, g1, g2, g3, g4, g5, g6]
def isCode : Jvm.Cond → Bool
  | .code _ _ _ _ => true
  | _ => false
theorem all_split {L : List Jvm.Cond} {P : Jvm.Cond → Bool} (h1 : L.all (fun c => isCode c || P c) = true) (h2 : ∀ c ∈ L.filter isCode, P c = true) : L.all P = true := by
  refine List.all_eq_true.mpr fun c hc => ?_
  have h := List.all_eq_true.mp h1 c hc
  rcases Bool.eq_false_or_eq_true (isCode c) with hi | hi
  · exact h2 c (List.mem_filter.mpr ⟨hc, hi⟩)
  · simpa [hi] using h
set_option maxRecDepth 65536 in
theorem w_c0 : (Jvm.Cond.code x code maxLocals ret).before args0 about1 = true := code_word (m := ⟨1, 1⟩) (meth := k1m1) (c := k1c1) (by decide +kernel) rfl rfl rfl (by decide +kernel)
set_option maxRecDepth 65536 in
theorem w_c1 : (Jvm.Cond.code ({ cls := "com/example/kennet/kennet/xdm/AtomicType", name := "isSubtypeOf", desc := "(Lcom/example/kennet/kennet/xdm/AtomicType;)Z" } : Jvm.MethodName) prog_35_method_7_code (3 : Nat) (Option.some Jvm.ClassFile.FieldType.boolean)).before args0 about1 = true := code_word (m := ⟨6, 0⟩) (meth := k6m0) (c := k6c0) (by decide +kernel) rfl rfl rfl (by decide +kernel)
def codes1 : List Jvm.Cond := [Jvm.Cond.code x code maxLocals ret, Jvm.Cond.code ({ cls := "com/example/kennet/kennet/xdm/AtomicType", name := "isSubtypeOf", desc := "(Lcom/example/kennet/kennet/xdm/AtomicType;)Z" } : Jvm.MethodName) prog_35_method_7_code (3 : Nat) (Option.some Jvm.ClassFile.FieldType.boolean)]
set_option maxRecDepth 65536 in
theorem codes_eq : words1.filter isCode = codes1 := rfl
theorem w_codes : ∀ c ∈ words1.filter isCode, c.before args0 about1 = true := by
  rw [codes_eq]
  intro c hc
  simp only [codes1, List.mem_cons, List.not_mem_nil, or_false] at hc
  rcases hc with rfl | rfl
  · exact w_c0
  · exact w_c1
set_option maxRecDepth 65536 in
theorem w_t1 : (words1.take 24).all (fun c => isCode c || c.before args0 about1) = true := by decide +kernel
set_option maxRecDepth 65536 in
theorem w_t2 : ((words1.drop 24).take 24).all (fun c => isCode c || c.before args0 about1) = true := by decide +kernel
set_option maxRecDepth 65536 in
theorem w_t3 : (((words1.drop 24).drop 24).take 24).all (fun c => isCode c || c.before args0 about1) = true := by decide +kernel
set_option maxRecDepth 65536 in
theorem w_t4 : (((words1.drop 24).drop 24).drop 24).all (fun c => isCode c || c.before args0 about1) = true := by decide +kernel
theorem w_tables : (allAtoms (Jvm.Cond.code x code maxLocals ret :: tables_1)).before args0 about1 = true := by
  rw [allAtoms_all]
  show words1.all (fun c => c.before args0 about1) = true
  refine all_split ?_ w_codes
  rw [← List.take_append_drop 24 words1, List.all_append, w_t1, ← List.take_append_drop 24 (words1.drop 24), List.all_append, w_t2, ← List.take_append_drop 24 ((words1.drop 24).drop 24), List.all_append, w_t3, w_t4]
  rfl
set_option maxRecDepth 65536 in
theorem w_case : (Jvm.Cond.and given_1 narrow_1).before args0 about1 = true := by decide +kernel
theorem w_applies : (headSpec (Jvm.Cond.code x code maxLocals ret :: tables_1) room_1).applies x e0.platform about1 = true :=
  (Spec.applies_iff w_frames).mpr ⟨w_running, w_runnable, w_alone, w_named, w_hears, w_ripe, w_room, w_tables⟩
theorem atStart : AtStart classFile x code maxLocals ret World_1 tables_1 room_1 Calls_1 rest_1 Pre_1 launch0 p0 e0 about1 theMethod args0 below0 :=
  ⟨lists_1, trivial, launch0.admits_env _ _ _, launch0.least_env, fairChoices_fair.cas, fairChoices_fair.clock, w_frames, w_args, w_heap, w_applies, trivial, trivial, w_case⟩
end start1
theorem witness_1 : WitnessClaimed_1 := ⟨start1.p0, start1.e0, start1.about1, start1.theMethod, start1.args0, start1.below0, start1.atStart⟩
end Jvm.Pilot.@@N@@
