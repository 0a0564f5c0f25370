import JvmDerived
import JvmDerived.Pilot.@@N@@Statement
import JvmDerived.Pilot.@@N@@Code
set_option linter.unusedVariables false
set_option linter.unusedSimpArgs false
namespace Jvm.RoadKit
open Sem ClassFile Op Lib Jvm.Stand Jvm.Free Jvm.LawKit
section New
variable {p : Program} {l : Launch} {e : Env} {R : Room} {s : State} {m : MethodId} {args : Array Value} {below : List Frame} {meth : Method} {c : Code} {T : State} {locs : List Loc} {cells slots : Nat}
theorem retI (X : Stand p l e R s m args below meth c T locs cells slots) (hx : p.tables.exec = Jvm.exec) {pc : Nat} {Ls : Array Slot} {z : Int32} {rest : List Value} (hret : meth.sig.returnType = some .int) (hd : decode c.code pc = .ok (.ireturn, 1)) {fs : List Frame}
    (hl : ∀ (f : JFrame) (acts : List Action), f.method = m → f.locked = none → f.entered = [] → (doReturn e (T.setTop f) acts (some (.int z))).1 = T.setFrames fs) : Steps p.tables e below (T.setTop (mkF m pc Ls (.int z :: rest))) (T.setFrames fs) := by
  have hm' : T.vm.method? m = some meth := X.method'
  have hn : narrow .int (.int z) = .int z := rfl
  show Steps p.tables e below (T.setTop { method := m, pc := pc, locals := Ls, stack := _ :: rest, locked := none }) _
  jvm_step X.here [X.here.top, hx, hd, hm', hret, hn]
  first | (intro acts; rw [hl _ acts rfl rfl rfl]) | rw [hl _ _ rfl rfl rfl]
  exact Steps.refl _
end New
end Jvm.RoadKit
namespace Jvm.Pilot.@@N@@
open Jvm Jvm.ClassFile Sem Op Lib Jvm.Free Jvm.Stand Jvm.LawKit Jvm.RoadKit Bundle Jvm.Pilot.@@N@@.Jvm.D
theorem own_lt (a b : Int32) : a < b ↔ a.toInt < b.toInt := Int32.lt_iff_toInt_lt
theorem own_eq (a b : Int32) : a = b ↔ a.toInt = b.toInt := Int32.toInt_inj.symm
theorem own_getI (l : List Int32) (k : Nat) : (l.map Value.int).getD k (.int 0) = .int (l.getD k 0) := by
  induction l generalizing k with
  | nil => rfl
  | cons a t ih => cases k with
    | zero => rfl
    | succ k => exact ih k
theorem own_nv {z : Int32} (h : z = 0 ∨ z = 1) : narrow .boolean (.int z) = .int z := by rcases h with rfl | rfl <;> rfl
theorem own_fitb {z : Int32} (h : z = 0 ∨ z = 1) : fits .boolean (.int z) = true := by rcases h with rfl | rfl <;> rfl
theorem own_nar {z : Int32} (h : z = 0 ∨ z = 1) : nar .boolean z = z := by rcases h with rfl | rfl <;> rfl
def own_P (c : Int32) : Int32 := if (c.toInt = 9 ∨ c.toInt = 10 ∨ c.toInt = 13 ∨ (32 ≤ c.toInt ∧ c.toInt ≤ 55295) ∨ (57344 ≤ c.toInt ∧ c.toInt ≤ 65533) ∨ (65536 ≤ c.toInt ∧ c.toInt ≤ 1114111)) then 1 else 0
theorem own_P1 {c : Int32} (h : (c.toInt = 9 ∨ c.toInt = 10 ∨ c.toInt = 13 ∨ (32 ≤ c.toInt ∧ c.toInt ≤ 55295) ∨ (57344 ≤ c.toInt ∧ c.toInt ≤ 65533) ∨ (65536 ≤ c.toInt ∧ c.toInt ≤ 1114111))) : (1 : Int32) = own_P c := by rw [own_P, if_pos h]
theorem own_P0 {c : Int32} (h : ¬ (c.toInt = 9 ∨ c.toInt = 10 ∨ c.toInt = 13 ∨ (32 ≤ c.toInt ∧ c.toInt ≤ 55295) ∨ (57344 ≤ c.toInt ∧ c.toInt ≤ 65533) ∨ (65536 ≤ c.toInt ∧ c.toInt ≤ 1114111))) : (0 : Int32) = own_P c := by rw [own_P, if_neg h]
theorem own_iff1 {Q : Prop} (h : Q) : (1 : Int32) = 0 ↔ ¬ Q := ⟨fun q => absurd q (by decide), fun q => absurd h q⟩
theorem own_iff0 {Q : Prop} (h : ¬ Q) : (0 : Int32) = 0 ↔ ¬ Q := ⟨fun _ => h, fun _ => rfl⟩
theorem own_in (z : Int32) : ¬ ((z &&& 15) % 10) < 0 ∧ ((z &&& 15) % 10) < 10 := by
  have q := c_mask z 15 4 (by decide) (by decide)
  have r := c_irem (z &&& 15) 10 10 (by decide)
  simp only [own_lt, Int32.reduceToInt]
  omega
theorem own_pn1 : plainName "com/example/kennet/kennet/xdm/Characters" = true := by first | (simp [plainName, overriddenIn]; done) | decide +kernel
theorem own_pn2 : plainName "com/example/kennet/kennet/xdm/CharactersIsPermittedPinLaw" = true := by first | (simp [plainName, overriddenIn]; done) | decide +kernel
theorem own_pn0 : plainName "com/example/kennet/kennet/xdm/CharactersIsPermittedPinLaw" = true := by first | (simp [plainName, overriddenIn]; done) | decide +kernel
theorem own_pd0 : parseMethodDescriptor "(I)Z" = some ⟨[.int], some .boolean⟩ := by decide +kernel
theorem own_d1_0 : decode prog_40_method_2_code 0 = .ok (.iload_n 0, 1) := by decide +kernel
theorem own_d1_1 : decode prog_40_method_2_code 1 = .ok (.bipush 9, 2) := by decide +kernel
theorem own_d1_3 : decode prog_40_method_2_code 3 = .ok (.if_icmp .eq 51, 3) := by decide +kernel
theorem own_d1_6 : decode prog_40_method_2_code 6 = .ok (.iload_n 0, 1) := by decide +kernel
theorem own_d1_7 : decode prog_40_method_2_code 7 = .ok (.bipush 10, 2) := by decide +kernel
theorem own_d1_9 : decode prog_40_method_2_code 9 = .ok (.if_icmp .eq 45, 3) := by decide +kernel
theorem own_d1_12 : decode prog_40_method_2_code 12 = .ok (.iload_n 0, 1) := by decide +kernel
theorem own_d1_13 : decode prog_40_method_2_code 13 = .ok (.bipush 13, 2) := by decide +kernel
theorem own_d1_15 : decode prog_40_method_2_code 15 = .ok (.if_icmp .eq 39, 3) := by decide +kernel
theorem own_d1_18 : decode prog_40_method_2_code 18 = .ok (.iload_n 0, 1) := by decide +kernel
theorem own_d1_19 : decode prog_40_method_2_code 19 = .ok (.bipush 32, 2) := by decide +kernel
theorem own_d1_21 : decode prog_40_method_2_code 21 = .ok (.if_icmp .lt 9, 3) := by decide +kernel
theorem own_d1_24 : decode prog_40_method_2_code 24 = .ok (.iload_n 0, 1) := by decide +kernel
theorem own_d1_25 : decode prog_40_method_2_code 25 = .ok (.ldc 7, 2) := by decide +kernel
theorem own_d1_27 : decode prog_40_method_2_code 27 = .ok (.if_icmp .le 27, 3) := by decide +kernel
theorem own_d1_30 : decode prog_40_method_2_code 30 = .ok (.iload_n 0, 1) := by decide +kernel
theorem own_d1_31 : decode prog_40_method_2_code 31 = .ok (.ldc 8, 2) := by decide +kernel
theorem own_d1_33 : decode prog_40_method_2_code 33 = .ok (.if_icmp .lt 9, 3) := by decide +kernel
theorem own_d1_36 : decode prog_40_method_2_code 36 = .ok (.iload_n 0, 1) := by decide +kernel
theorem own_d1_37 : decode prog_40_method_2_code 37 = .ok (.ldc 9, 2) := by decide +kernel
theorem own_d1_39 : decode prog_40_method_2_code 39 = .ok (.if_icmp .le 15, 3) := by decide +kernel
theorem own_d1_42 : decode prog_40_method_2_code 42 = .ok (.iload_n 0, 1) := by decide +kernel
theorem own_d1_43 : decode prog_40_method_2_code 43 = .ok (.ldc 10, 2) := by decide +kernel
theorem own_d1_45 : decode prog_40_method_2_code 45 = .ok (.if_icmp .lt 13, 3) := by decide +kernel
theorem own_d1_48 : decode prog_40_method_2_code 48 = .ok (.iload_n 0, 1) := by decide +kernel
theorem own_d1_49 : decode prog_40_method_2_code 49 = .ok (.ldc 11, 2) := by decide +kernel
theorem own_d1_51 : decode prog_40_method_2_code 51 = .ok (.if_icmp .gt 7, 3) := by decide +kernel
theorem own_d1_54 : decode prog_40_method_2_code 54 = .ok (.iconst 1, 1) := by decide +kernel
theorem own_d1_55 : decode prog_40_method_2_code 55 = .ok (.goto 4, 3) := by decide +kernel
theorem own_d1_58 : decode prog_40_method_2_code 58 = .ok (.iconst 0, 1) := by decide +kernel
theorem own_d1_59 : decode prog_40_method_2_code 59 = .ok (.ireturn, 1) := by decide +kernel
theorem own_ef1 (m : MethodId) (x0 : Int32) : entryFrame m #[(.int x0)] 1 = mkF m 0 #[.val (.int x0)] [] := by first | (simp [entryFrame, mkF, argsToLocals, Value.category]; done) | rfl
def own_Q1 (Z : State) (p1 : Int32) (h0 : Heap) (n0 : Nat) (v : Option Value) (h : Heap) (L : List Loc) : Prop := v = some (.int (own_P p1)) ∧ Fr n0 L ∧ h = h0
set_option maxRecDepth 65536 in
set_option maxHeartbeats 40000000 in
theorem rm1 (l : Launch) (Z : State) (a0 : Array Value) (hw : ∀ d ∈ tables_1, d.before a0 Z = true) (ws : List Jvm.Cond) (p1 : Int32) (h0 : Heap) (n0 : Nat) (Z0 : n0 ≤ h0.size)  :
    MetFree l (⟨"com/example/kennet/kennet/xdm/Characters", "isPermitted", "(I)Z"⟩ : MethodName) (head1 (Jvm.Cond.code (⟨"com/example/kennet/kennet/xdm/Characters", "isPermitted", "(I)Z"⟩ : MethodName) prog_40_method_2_code 1 (some .boolean) :: ws) ({ frames := 0, cells := 0, slots := 0, locals := 0 } : Room)) (fun a U => a = #[(.int p1)] ∧ Z.Warmed39 U.vm ∧ U.heap = h0) (fun _ _ _ _ _ => True) (fun _ U o U' => ∃ v L, o = .returned v ∧ own_Q1 Z p1 h0 n0 v U'.heap L ∧ FrameEnd U o U' L ({ frames := 0, cells := 0, slots := 0, locals := 0 } : Room).cells ({ frames := 0, cells := 0, slots := 0, locals := 0 } : Room).slots) := by
  refine MetFree.of_bodySF (plainFor_of_name own_pn1) hisR ?_
  intro p e s m args below meth c s₁ Bd hml0 hP hK
  obtain ⟨rfl, hZ, hh⟩ := hP
  have hx := Bd.exec
  have hby := Bd.bytes
  have hml : c.maxLocals = 1 := hml0
  have hown : s.vm.findClass "com/example/kennet/kennet/xdm/Characters" = some m.cls := findClass_of_methodNamed Bd.named
  have hnm := (name_of_methodNamed Bd.named Bd.method).1
  have X0 : Stand p l e ({ frames := 0, cells := 0, slots := 0, locals := 0 } : Room) s m #[(.int p1)] below meth c s₁ [] 0 0 := Stand.of_body Bd
  have e0 : s₁.heap = h0 := by rw [← hh, Bd.state]; rfl
  have N0 := Fr.nil n0
  have pre0 : ∀ t, Steps p.tables e below (s₁.setTop (mkF m 0 #[.val (.int p1)] [])) t → Steps p.tables e below (s₁.setTop (entryFrame m #[(.int p1)] 1)) t := fun t k => castTop (own_ef1 m p1) k
  have pre1 : ∀ t, Steps p.tables e below (s₁.setTop (mkF m 3 #[.val (.int p1)] [(.int (9 : Int32)), (.int p1)])) t → Steps p.tables e below (s₁.setTop (entryFrame m #[(.int p1)] 1)) t := by
    intro t k
    refine pre0 _ ?_
    show Steps p.tables e below (s₁.setTop (mkF m 0 #[.val (.int p1)] [])) _
    refine XS.iloadN X0.here hx rfl (hb hby own_d1_0) rfl ?_
    show Steps p.tables e below (s₁.setTop (mkF m 1 #[.val (.int p1)] [(.int p1)])) _
    refine XS.bipush X0.here hx rfl (hb hby own_d1_1) ?_
    exact k
  by_cases hc3 : p1 = (9 : Int32)
  · -- hc3 
    have pre2 : ∀ t, Steps p.tables e below (s₁.setTop (mkF m 59 #[.val (.int p1)] [(.int (1 : Int32))])) t → Steps p.tables e below (s₁.setTop (entryFrame m #[(.int p1)] 1)) t := by
      intro t k
      refine pre1 _ ?_
      show Steps p.tables e below (s₁.setTop (mkF m 3 #[.val (.int p1)] [(.int (9 : Int32)), (.int p1)])) _
      refine XS.icmpYes X0.here hx rfl (pc0 := 3) (pc' := 54) rfl (hb hby own_d1_3) rfl (teq hc3).1 (by decide) (by decide) ?_
      show Steps p.tables e below (s₁.setTop (mkF m 54 #[.val (.int p1)] [])) _
      refine XS.iconst X0.here hx rfl (hb hby own_d1_54) ?_
      show Steps p.tables e below (s₁.setTop (mkF m 55 #[.val (.int p1)] [(.int (1 : Int32))])) _
      refine XS.goto X0.here hx rfl (pc0 := 55) (pc' := 59) rfl (hb hby own_d1_55) (by decide) (by decide) ?_
      exact k
    obtain ⟨fs, hr, hrun, hended, hW, hsame⟩ := X0.leave (v := some (.int (1 : Int32))) (fun h => by rw [Bd.returns] at h; cases h)
    refine ⟨_, _, pre2 _ ?_, hrun, hended, _, _, rfl, ?_, ⟨_, rfl⟩, hW, hsame.mono (by decide) (by decide)⟩
    · show Steps p.tables e below (s₁.setTop (mkF m 59 #[.val (.int p1)] [(.int (1 : Int32))])) _
      exact retN X0 hx (t := .boolean) Bd.returns (by simp) (hb hby own_d1_59) hr
    · show own_Q1 Z p1 h0 n0 _ s₁.heap _
      rw [e0]
      exact ⟨congrArg (fun z => some (Value.int z)) (show (1 : Int32) = (own_P p1) from own_P1 (by simp only [own_lt, own_eq, Int32.reduceToInt] at hc3; omega)), N0, rfl⟩
  · -- hc3 not
    have pre3 : ∀ t, Steps p.tables e below (s₁.setTop (mkF m 9 #[.val (.int p1)] [(.int (10 : Int32)), (.int p1)])) t → Steps p.tables e below (s₁.setTop (entryFrame m #[(.int p1)] 1)) t := by
      intro t k
      refine pre1 _ ?_
      show Steps p.tables e below (s₁.setTop (mkF m 3 #[.val (.int p1)] [(.int (9 : Int32)), (.int p1)])) _
      refine XS.icmpNo X0.here hx rfl (hb hby own_d1_3) rfl (feq hc3).1 ?_
      show Steps p.tables e below (s₁.setTop (mkF m 6 #[.val (.int p1)] [])) _
      refine XS.iloadN X0.here hx rfl (hb hby own_d1_6) rfl ?_
      show Steps p.tables e below (s₁.setTop (mkF m 7 #[.val (.int p1)] [(.int p1)])) _
      refine XS.bipush X0.here hx rfl (hb hby own_d1_7) ?_
      exact k
    by_cases hc9 : p1 = (10 : Int32)
    · -- hc9 
      have pre4 : ∀ t, Steps p.tables e below (s₁.setTop (mkF m 59 #[.val (.int p1)] [(.int (1 : Int32))])) t → Steps p.tables e below (s₁.setTop (entryFrame m #[(.int p1)] 1)) t := by
        intro t k
        refine pre3 _ ?_
        show Steps p.tables e below (s₁.setTop (mkF m 9 #[.val (.int p1)] [(.int (10 : Int32)), (.int p1)])) _
        refine XS.icmpYes X0.here hx rfl (pc0 := 9) (pc' := 54) rfl (hb hby own_d1_9) rfl (teq hc9).1 (by decide) (by decide) ?_
        show Steps p.tables e below (s₁.setTop (mkF m 54 #[.val (.int p1)] [])) _
        refine XS.iconst X0.here hx rfl (hb hby own_d1_54) ?_
        show Steps p.tables e below (s₁.setTop (mkF m 55 #[.val (.int p1)] [(.int (1 : Int32))])) _
        refine XS.goto X0.here hx rfl (pc0 := 55) (pc' := 59) rfl (hb hby own_d1_55) (by decide) (by decide) ?_
        exact k
      obtain ⟨fs, hr, hrun, hended, hW, hsame⟩ := X0.leave (v := some (.int (1 : Int32))) (fun h => by rw [Bd.returns] at h; cases h)
      refine ⟨_, _, pre4 _ ?_, hrun, hended, _, _, rfl, ?_, ⟨_, rfl⟩, hW, hsame.mono (by decide) (by decide)⟩
      · show Steps p.tables e below (s₁.setTop (mkF m 59 #[.val (.int p1)] [(.int (1 : Int32))])) _
        exact retN X0 hx (t := .boolean) Bd.returns (by simp) (hb hby own_d1_59) hr
      · show own_Q1 Z p1 h0 n0 _ s₁.heap _
        rw [e0]
        exact ⟨congrArg (fun z => some (Value.int z)) (show (1 : Int32) = (own_P p1) from own_P1 (by simp only [own_lt, own_eq, Int32.reduceToInt] at hc3 hc9; omega)), N0, rfl⟩
    · -- hc9 not
      have pre5 : ∀ t, Steps p.tables e below (s₁.setTop (mkF m 15 #[.val (.int p1)] [(.int (13 : Int32)), (.int p1)])) t → Steps p.tables e below (s₁.setTop (entryFrame m #[(.int p1)] 1)) t := by
        intro t k
        refine pre3 _ ?_
        show Steps p.tables e below (s₁.setTop (mkF m 9 #[.val (.int p1)] [(.int (10 : Int32)), (.int p1)])) _
        refine XS.icmpNo X0.here hx rfl (hb hby own_d1_9) rfl (feq hc9).1 ?_
        show Steps p.tables e below (s₁.setTop (mkF m 12 #[.val (.int p1)] [])) _
        refine XS.iloadN X0.here hx rfl (hb hby own_d1_12) rfl ?_
        show Steps p.tables e below (s₁.setTop (mkF m 13 #[.val (.int p1)] [(.int p1)])) _
        refine XS.bipush X0.here hx rfl (hb hby own_d1_13) ?_
        exact k
      by_cases hc15 : p1 = (13 : Int32)
      · -- hc15 
        have pre6 : ∀ t, Steps p.tables e below (s₁.setTop (mkF m 59 #[.val (.int p1)] [(.int (1 : Int32))])) t → Steps p.tables e below (s₁.setTop (entryFrame m #[(.int p1)] 1)) t := by
          intro t k
          refine pre5 _ ?_
          show Steps p.tables e below (s₁.setTop (mkF m 15 #[.val (.int p1)] [(.int (13 : Int32)), (.int p1)])) _
          refine XS.icmpYes X0.here hx rfl (pc0 := 15) (pc' := 54) rfl (hb hby own_d1_15) rfl (teq hc15).1 (by decide) (by decide) ?_
          show Steps p.tables e below (s₁.setTop (mkF m 54 #[.val (.int p1)] [])) _
          refine XS.iconst X0.here hx rfl (hb hby own_d1_54) ?_
          show Steps p.tables e below (s₁.setTop (mkF m 55 #[.val (.int p1)] [(.int (1 : Int32))])) _
          refine XS.goto X0.here hx rfl (pc0 := 55) (pc' := 59) rfl (hb hby own_d1_55) (by decide) (by decide) ?_
          exact k
        obtain ⟨fs, hr, hrun, hended, hW, hsame⟩ := X0.leave (v := some (.int (1 : Int32))) (fun h => by rw [Bd.returns] at h; cases h)
        refine ⟨_, _, pre6 _ ?_, hrun, hended, _, _, rfl, ?_, ⟨_, rfl⟩, hW, hsame.mono (by decide) (by decide)⟩
        · show Steps p.tables e below (s₁.setTop (mkF m 59 #[.val (.int p1)] [(.int (1 : Int32))])) _
          exact retN X0 hx (t := .boolean) Bd.returns (by simp) (hb hby own_d1_59) hr
        · show own_Q1 Z p1 h0 n0 _ s₁.heap _
          rw [e0]
          exact ⟨congrArg (fun z => some (Value.int z)) (show (1 : Int32) = (own_P p1) from own_P1 (by simp only [own_lt, own_eq, Int32.reduceToInt] at hc3 hc9 hc15; omega)), N0, rfl⟩
      · -- hc15 not
        have pre7 : ∀ t, Steps p.tables e below (s₁.setTop (mkF m 21 #[.val (.int p1)] [(.int (32 : Int32)), (.int p1)])) t → Steps p.tables e below (s₁.setTop (entryFrame m #[(.int p1)] 1)) t := by
          intro t k
          refine pre5 _ ?_
          show Steps p.tables e below (s₁.setTop (mkF m 15 #[.val (.int p1)] [(.int (13 : Int32)), (.int p1)])) _
          refine XS.icmpNo X0.here hx rfl (hb hby own_d1_15) rfl (feq hc15).1 ?_
          show Steps p.tables e below (s₁.setTop (mkF m 18 #[.val (.int p1)] [])) _
          refine XS.iloadN X0.here hx rfl (hb hby own_d1_18) rfl ?_
          show Steps p.tables e below (s₁.setTop (mkF m 19 #[.val (.int p1)] [(.int p1)])) _
          refine XS.bipush X0.here hx rfl (hb hby own_d1_19) ?_
          exact k
        by_cases hc21 : p1 < (32 : Int32)
        · -- hc21 
          have pre8 : ∀ t, Steps p.tables e below (s₁.setTop (mkF m 33 #[.val (.int p1)] [(.int (57344 : Int32)), (.int p1)])) t → Steps p.tables e below (s₁.setTop (entryFrame m #[(.int p1)] 1)) t := by
            intro t k
            refine pre7 _ ?_
            show Steps p.tables e below (s₁.setTop (mkF m 21 #[.val (.int p1)] [(.int (32 : Int32)), (.int p1)])) _
            refine XS.icmpYes X0.here hx rfl (pc0 := 21) (pc' := 30) rfl (hb hby own_d1_21) rfl (tlt hc21).1 (by decide) (by decide) ?_
            show Steps p.tables e below (s₁.setTop (mkF m 30 #[.val (.int p1)] [])) _
            refine XS.iloadN X0.here hx rfl (hb hby own_d1_30) rfl ?_
            show Steps p.tables e below (s₁.setTop (mkF m 31 #[.val (.int p1)] [(.int p1)])) _
            refine X0.ldcI hx hown (mvT hZ (hw _ (List.mem_of_getElem? (i := 10) rfl))) rfl (hb hby own_d1_31) ?_
            exact k
          by_cases hc33 : p1 < (57344 : Int32)
          · -- hc33 
            have pre9 : ∀ t, Steps p.tables e below (s₁.setTop (mkF m 45 #[.val (.int p1)] [(.int (65536 : Int32)), (.int p1)])) t → Steps p.tables e below (s₁.setTop (entryFrame m #[(.int p1)] 1)) t := by
              intro t k
              refine pre8 _ ?_
              show Steps p.tables e below (s₁.setTop (mkF m 33 #[.val (.int p1)] [(.int (57344 : Int32)), (.int p1)])) _
              refine XS.icmpYes X0.here hx rfl (pc0 := 33) (pc' := 42) rfl (hb hby own_d1_33) rfl (tlt hc33).1 (by decide) (by decide) ?_
              show Steps p.tables e below (s₁.setTop (mkF m 42 #[.val (.int p1)] [])) _
              refine XS.iloadN X0.here hx rfl (hb hby own_d1_42) rfl ?_
              show Steps p.tables e below (s₁.setTop (mkF m 43 #[.val (.int p1)] [(.int p1)])) _
              refine X0.ldcI hx hown (mvT hZ (hw _ (List.mem_of_getElem? (i := 11) rfl))) rfl (hb hby own_d1_43) ?_
              exact k
            by_cases hc45 : p1 < (65536 : Int32)
            · -- hc45 
              have pre10 : ∀ t, Steps p.tables e below (s₁.setTop (mkF m 59 #[.val (.int p1)] [(.int (0 : Int32))])) t → Steps p.tables e below (s₁.setTop (entryFrame m #[(.int p1)] 1)) t := by
                intro t k
                refine pre9 _ ?_
                show Steps p.tables e below (s₁.setTop (mkF m 45 #[.val (.int p1)] [(.int (65536 : Int32)), (.int p1)])) _
                refine XS.icmpYes X0.here hx rfl (pc0 := 45) (pc' := 58) rfl (hb hby own_d1_45) rfl (tlt hc45).1 (by decide) (by decide) ?_
                show Steps p.tables e below (s₁.setTop (mkF m 58 #[.val (.int p1)] [])) _
                refine XS.iconst X0.here hx rfl (hb hby own_d1_58) ?_
                exact k
              obtain ⟨fs, hr, hrun, hended, hW, hsame⟩ := X0.leave (v := some (.int (0 : Int32))) (fun h => by rw [Bd.returns] at h; cases h)
              refine ⟨_, _, pre10 _ ?_, hrun, hended, _, _, rfl, ?_, ⟨_, rfl⟩, hW, hsame.mono (by decide) (by decide)⟩
              · show Steps p.tables e below (s₁.setTop (mkF m 59 #[.val (.int p1)] [(.int (0 : Int32))])) _
                exact retN X0 hx (t := .boolean) Bd.returns (by simp) (hb hby own_d1_59) hr
              · show own_Q1 Z p1 h0 n0 _ s₁.heap _
                rw [e0]
                exact ⟨congrArg (fun z => some (Value.int z)) (show (0 : Int32) = (own_P p1) from own_P0 (by simp only [own_lt, own_eq, Int32.reduceToInt] at hc3 hc9 hc15 hc21 hc33 hc45; omega)), N0, rfl⟩
            · -- hc45 not
              have pre11 : ∀ t, Steps p.tables e below (s₁.setTop (mkF m 51 #[.val (.int p1)] [(.int (1114111 : Int32)), (.int p1)])) t → Steps p.tables e below (s₁.setTop (entryFrame m #[(.int p1)] 1)) t := by
                intro t k
                refine pre9 _ ?_
                show Steps p.tables e below (s₁.setTop (mkF m 45 #[.val (.int p1)] [(.int (65536 : Int32)), (.int p1)])) _
                refine XS.icmpNo X0.here hx rfl (hb hby own_d1_45) rfl (flt hc45).1 ?_
                show Steps p.tables e below (s₁.setTop (mkF m 48 #[.val (.int p1)] [])) _
                refine XS.iloadN X0.here hx rfl (hb hby own_d1_48) rfl ?_
                show Steps p.tables e below (s₁.setTop (mkF m 49 #[.val (.int p1)] [(.int p1)])) _
                refine X0.ldcI hx hown (mvT hZ (hw _ (List.mem_of_getElem? (i := 22) rfl))) rfl (hb hby own_d1_49) ?_
                exact k
              by_cases hc51 : (1114111 : Int32) < p1
              · -- hc51 
                have pre12 : ∀ t, Steps p.tables e below (s₁.setTop (mkF m 59 #[.val (.int p1)] [(.int (0 : Int32))])) t → Steps p.tables e below (s₁.setTop (entryFrame m #[(.int p1)] 1)) t := by
                  intro t k
                  refine pre11 _ ?_
                  show Steps p.tables e below (s₁.setTop (mkF m 51 #[.val (.int p1)] [(.int (1114111 : Int32)), (.int p1)])) _
                  refine XS.icmpYes X0.here hx rfl (pc0 := 51) (pc' := 58) rfl (hb hby own_d1_51) rfl (tlt hc51).2.2.1 (by decide) (by decide) ?_
                  show Steps p.tables e below (s₁.setTop (mkF m 58 #[.val (.int p1)] [])) _
                  refine XS.iconst X0.here hx rfl (hb hby own_d1_58) ?_
                  exact k
                obtain ⟨fs, hr, hrun, hended, hW, hsame⟩ := X0.leave (v := some (.int (0 : Int32))) (fun h => by rw [Bd.returns] at h; cases h)
                refine ⟨_, _, pre12 _ ?_, hrun, hended, _, _, rfl, ?_, ⟨_, rfl⟩, hW, hsame.mono (by decide) (by decide)⟩
                · show Steps p.tables e below (s₁.setTop (mkF m 59 #[.val (.int p1)] [(.int (0 : Int32))])) _
                  exact retN X0 hx (t := .boolean) Bd.returns (by simp) (hb hby own_d1_59) hr
                · show own_Q1 Z p1 h0 n0 _ s₁.heap _
                  rw [e0]
                  exact ⟨congrArg (fun z => some (Value.int z)) (show (0 : Int32) = (own_P p1) from own_P0 (by simp only [own_lt, own_eq, Int32.reduceToInt] at hc3 hc9 hc15 hc21 hc33 hc45 hc51; omega)), N0, rfl⟩
              · -- hc51 not
                have pre13 : ∀ t, Steps p.tables e below (s₁.setTop (mkF m 59 #[.val (.int p1)] [(.int (1 : Int32))])) t → Steps p.tables e below (s₁.setTop (entryFrame m #[(.int p1)] 1)) t := by
                  intro t k
                  refine pre11 _ ?_
                  show Steps p.tables e below (s₁.setTop (mkF m 51 #[.val (.int p1)] [(.int (1114111 : Int32)), (.int p1)])) _
                  refine XS.icmpNo X0.here hx rfl (hb hby own_d1_51) rfl (flt hc51).2.2.1 ?_
                  show Steps p.tables e below (s₁.setTop (mkF m 54 #[.val (.int p1)] [])) _
                  refine XS.iconst X0.here hx rfl (hb hby own_d1_54) ?_
                  show Steps p.tables e below (s₁.setTop (mkF m 55 #[.val (.int p1)] [(.int (1 : Int32))])) _
                  refine XS.goto X0.here hx rfl (pc0 := 55) (pc' := 59) rfl (hb hby own_d1_55) (by decide) (by decide) ?_
                  exact k
                obtain ⟨fs, hr, hrun, hended, hW, hsame⟩ := X0.leave (v := some (.int (1 : Int32))) (fun h => by rw [Bd.returns] at h; cases h)
                refine ⟨_, _, pre13 _ ?_, hrun, hended, _, _, rfl, ?_, ⟨_, rfl⟩, hW, hsame.mono (by decide) (by decide)⟩
                · show Steps p.tables e below (s₁.setTop (mkF m 59 #[.val (.int p1)] [(.int (1 : Int32))])) _
                  exact retN X0 hx (t := .boolean) Bd.returns (by simp) (hb hby own_d1_59) hr
                · show own_Q1 Z p1 h0 n0 _ s₁.heap _
                  rw [e0]
                  exact ⟨congrArg (fun z => some (Value.int z)) (show (1 : Int32) = (own_P p1) from own_P1 (by simp only [own_lt, own_eq, Int32.reduceToInt] at hc3 hc9 hc15 hc21 hc33 hc45 hc51; omega)), N0, rfl⟩
          · -- hc33 not
            have pre14 : ∀ t, Steps p.tables e below (s₁.setTop (mkF m 39 #[.val (.int p1)] [(.int (65533 : Int32)), (.int p1)])) t → Steps p.tables e below (s₁.setTop (entryFrame m #[(.int p1)] 1)) t := by
              intro t k
              refine pre8 _ ?_
              show Steps p.tables e below (s₁.setTop (mkF m 33 #[.val (.int p1)] [(.int (57344 : Int32)), (.int p1)])) _
              refine XS.icmpNo X0.here hx rfl (hb hby own_d1_33) rfl (flt hc33).1 ?_
              show Steps p.tables e below (s₁.setTop (mkF m 36 #[.val (.int p1)] [])) _
              refine XS.iloadN X0.here hx rfl (hb hby own_d1_36) rfl ?_
              show Steps p.tables e below (s₁.setTop (mkF m 37 #[.val (.int p1)] [(.int p1)])) _
              refine X0.ldcI hx hown (mvT hZ (hw _ (List.mem_of_getElem? (i := 20) rfl))) rfl (hb hby own_d1_37) ?_
              exact k
            by_cases hc39 : (65533 : Int32) < p1
            · -- hc39 
              have pre15 : ∀ t, Steps p.tables e below (s₁.setTop (mkF m 45 #[.val (.int p1)] [(.int (65536 : Int32)), (.int p1)])) t → Steps p.tables e below (s₁.setTop (entryFrame m #[(.int p1)] 1)) t := by
                intro t k
                refine pre14 _ ?_
                show Steps p.tables e below (s₁.setTop (mkF m 39 #[.val (.int p1)] [(.int (65533 : Int32)), (.int p1)])) _
                refine XS.icmpNo X0.here hx rfl (hb hby own_d1_39) rfl (tlt hc39).2.2.2 ?_
                show Steps p.tables e below (s₁.setTop (mkF m 42 #[.val (.int p1)] [])) _
                refine XS.iloadN X0.here hx rfl (hb hby own_d1_42) rfl ?_
                show Steps p.tables e below (s₁.setTop (mkF m 43 #[.val (.int p1)] [(.int p1)])) _
                refine X0.ldcI hx hown (mvT hZ (hw _ (List.mem_of_getElem? (i := 11) rfl))) rfl (hb hby own_d1_43) ?_
                exact k
              by_cases hc45 : p1 < (65536 : Int32)
              · -- hc45 
                have pre16 : ∀ t, Steps p.tables e below (s₁.setTop (mkF m 59 #[.val (.int p1)] [(.int (0 : Int32))])) t → Steps p.tables e below (s₁.setTop (entryFrame m #[(.int p1)] 1)) t := by
                  intro t k
                  refine pre15 _ ?_
                  show Steps p.tables e below (s₁.setTop (mkF m 45 #[.val (.int p1)] [(.int (65536 : Int32)), (.int p1)])) _
                  refine XS.icmpYes X0.here hx rfl (pc0 := 45) (pc' := 58) rfl (hb hby own_d1_45) rfl (tlt hc45).1 (by decide) (by decide) ?_
                  show Steps p.tables e below (s₁.setTop (mkF m 58 #[.val (.int p1)] [])) _
                  refine XS.iconst X0.here hx rfl (hb hby own_d1_58) ?_
                  exact k
                obtain ⟨fs, hr, hrun, hended, hW, hsame⟩ := X0.leave (v := some (.int (0 : Int32))) (fun h => by rw [Bd.returns] at h; cases h)
                refine ⟨_, _, pre16 _ ?_, hrun, hended, _, _, rfl, ?_, ⟨_, rfl⟩, hW, hsame.mono (by decide) (by decide)⟩
                · show Steps p.tables e below (s₁.setTop (mkF m 59 #[.val (.int p1)] [(.int (0 : Int32))])) _
                  exact retN X0 hx (t := .boolean) Bd.returns (by simp) (hb hby own_d1_59) hr
                · show own_Q1 Z p1 h0 n0 _ s₁.heap _
                  rw [e0]
                  exact ⟨congrArg (fun z => some (Value.int z)) (show (0 : Int32) = (own_P p1) from own_P0 (by simp only [own_lt, own_eq, Int32.reduceToInt] at hc3 hc9 hc15 hc21 hc33 hc39 hc45; omega)), N0, rfl⟩
              · -- hc45 not
                have pre17 : ∀ t, Steps p.tables e below (s₁.setTop (mkF m 51 #[.val (.int p1)] [(.int (1114111 : Int32)), (.int p1)])) t → Steps p.tables e below (s₁.setTop (entryFrame m #[(.int p1)] 1)) t := by
                  intro t k
                  refine pre15 _ ?_
                  show Steps p.tables e below (s₁.setTop (mkF m 45 #[.val (.int p1)] [(.int (65536 : Int32)), (.int p1)])) _
                  refine XS.icmpNo X0.here hx rfl (hb hby own_d1_45) rfl (flt hc45).1 ?_
                  show Steps p.tables e below (s₁.setTop (mkF m 48 #[.val (.int p1)] [])) _
                  refine XS.iloadN X0.here hx rfl (hb hby own_d1_48) rfl ?_
                  show Steps p.tables e below (s₁.setTop (mkF m 49 #[.val (.int p1)] [(.int p1)])) _
                  refine X0.ldcI hx hown (mvT hZ (hw _ (List.mem_of_getElem? (i := 22) rfl))) rfl (hb hby own_d1_49) ?_
                  exact k
                by_cases hc51 : (1114111 : Int32) < p1
                · -- hc51 
                  have pre18 : ∀ t, Steps p.tables e below (s₁.setTop (mkF m 59 #[.val (.int p1)] [(.int (0 : Int32))])) t → Steps p.tables e below (s₁.setTop (entryFrame m #[(.int p1)] 1)) t := by
                    intro t k
                    refine pre17 _ ?_
                    show Steps p.tables e below (s₁.setTop (mkF m 51 #[.val (.int p1)] [(.int (1114111 : Int32)), (.int p1)])) _
                    refine XS.icmpYes X0.here hx rfl (pc0 := 51) (pc' := 58) rfl (hb hby own_d1_51) rfl (tlt hc51).2.2.1 (by decide) (by decide) ?_
                    show Steps p.tables e below (s₁.setTop (mkF m 58 #[.val (.int p1)] [])) _
                    refine XS.iconst X0.here hx rfl (hb hby own_d1_58) ?_
                    exact k
                  obtain ⟨fs, hr, hrun, hended, hW, hsame⟩ := X0.leave (v := some (.int (0 : Int32))) (fun h => by rw [Bd.returns] at h; cases h)
                  refine ⟨_, _, pre18 _ ?_, hrun, hended, _, _, rfl, ?_, ⟨_, rfl⟩, hW, hsame.mono (by decide) (by decide)⟩
                  · show Steps p.tables e below (s₁.setTop (mkF m 59 #[.val (.int p1)] [(.int (0 : Int32))])) _
                    exact retN X0 hx (t := .boolean) Bd.returns (by simp) (hb hby own_d1_59) hr
                  · show own_Q1 Z p1 h0 n0 _ s₁.heap _
                    rw [e0]
                    exact ⟨congrArg (fun z => some (Value.int z)) (show (0 : Int32) = (own_P p1) from own_P0 (by simp only [own_lt, own_eq, Int32.reduceToInt] at hc3 hc9 hc15 hc21 hc33 hc39 hc45 hc51; omega)), N0, rfl⟩
                · -- hc51 not
                  have pre19 : ∀ t, Steps p.tables e below (s₁.setTop (mkF m 59 #[.val (.int p1)] [(.int (1 : Int32))])) t → Steps p.tables e below (s₁.setTop (entryFrame m #[(.int p1)] 1)) t := by
                    intro t k
                    refine pre17 _ ?_
                    show Steps p.tables e below (s₁.setTop (mkF m 51 #[.val (.int p1)] [(.int (1114111 : Int32)), (.int p1)])) _
                    refine XS.icmpNo X0.here hx rfl (hb hby own_d1_51) rfl (flt hc51).2.2.1 ?_
                    show Steps p.tables e below (s₁.setTop (mkF m 54 #[.val (.int p1)] [])) _
                    refine XS.iconst X0.here hx rfl (hb hby own_d1_54) ?_
                    show Steps p.tables e below (s₁.setTop (mkF m 55 #[.val (.int p1)] [(.int (1 : Int32))])) _
                    refine XS.goto X0.here hx rfl (pc0 := 55) (pc' := 59) rfl (hb hby own_d1_55) (by decide) (by decide) ?_
                    exact k
                  obtain ⟨fs, hr, hrun, hended, hW, hsame⟩ := X0.leave (v := some (.int (1 : Int32))) (fun h => by rw [Bd.returns] at h; cases h)
                  refine ⟨_, _, pre19 _ ?_, hrun, hended, _, _, rfl, ?_, ⟨_, rfl⟩, hW, hsame.mono (by decide) (by decide)⟩
                  · show Steps p.tables e below (s₁.setTop (mkF m 59 #[.val (.int p1)] [(.int (1 : Int32))])) _
                    exact retN X0 hx (t := .boolean) Bd.returns (by simp) (hb hby own_d1_59) hr
                  · show own_Q1 Z p1 h0 n0 _ s₁.heap _
                    rw [e0]
                    exact ⟨congrArg (fun z => some (Value.int z)) (show (1 : Int32) = (own_P p1) from own_P1 (by simp only [own_lt, own_eq, Int32.reduceToInt] at hc3 hc9 hc15 hc21 hc33 hc39 hc45 hc51; omega)), N0, rfl⟩
            · -- hc39 not
              have pre20 : ∀ t, Steps p.tables e below (s₁.setTop (mkF m 59 #[.val (.int p1)] [(.int (1 : Int32))])) t → Steps p.tables e below (s₁.setTop (entryFrame m #[(.int p1)] 1)) t := by
                intro t k
                refine pre14 _ ?_
                show Steps p.tables e below (s₁.setTop (mkF m 39 #[.val (.int p1)] [(.int (65533 : Int32)), (.int p1)])) _
                refine XS.icmpYes X0.here hx rfl (pc0 := 39) (pc' := 54) rfl (hb hby own_d1_39) rfl (flt hc39).2.2.2 (by decide) (by decide) ?_
                show Steps p.tables e below (s₁.setTop (mkF m 54 #[.val (.int p1)] [])) _
                refine XS.iconst X0.here hx rfl (hb hby own_d1_54) ?_
                show Steps p.tables e below (s₁.setTop (mkF m 55 #[.val (.int p1)] [(.int (1 : Int32))])) _
                refine XS.goto X0.here hx rfl (pc0 := 55) (pc' := 59) rfl (hb hby own_d1_55) (by decide) (by decide) ?_
                exact k
              obtain ⟨fs, hr, hrun, hended, hW, hsame⟩ := X0.leave (v := some (.int (1 : Int32))) (fun h => by rw [Bd.returns] at h; cases h)
              refine ⟨_, _, pre20 _ ?_, hrun, hended, _, _, rfl, ?_, ⟨_, rfl⟩, hW, hsame.mono (by decide) (by decide)⟩
              · show Steps p.tables e below (s₁.setTop (mkF m 59 #[.val (.int p1)] [(.int (1 : Int32))])) _
                exact retN X0 hx (t := .boolean) Bd.returns (by simp) (hb hby own_d1_59) hr
              · show own_Q1 Z p1 h0 n0 _ s₁.heap _
                rw [e0]
                exact ⟨congrArg (fun z => some (Value.int z)) (show (1 : Int32) = (own_P p1) from own_P1 (by simp only [own_lt, own_eq, Int32.reduceToInt] at hc3 hc9 hc15 hc21 hc33 hc39; omega)), N0, rfl⟩
        · -- hc21 not
          have pre21 : ∀ t, Steps p.tables e below (s₁.setTop (mkF m 27 #[.val (.int p1)] [(.int (55295 : Int32)), (.int p1)])) t → Steps p.tables e below (s₁.setTop (entryFrame m #[(.int p1)] 1)) t := by
            intro t k
            refine pre7 _ ?_
            show Steps p.tables e below (s₁.setTop (mkF m 21 #[.val (.int p1)] [(.int (32 : Int32)), (.int p1)])) _
            refine XS.icmpNo X0.here hx rfl (hb hby own_d1_21) rfl (flt hc21).1 ?_
            show Steps p.tables e below (s₁.setTop (mkF m 24 #[.val (.int p1)] [])) _
            refine XS.iloadN X0.here hx rfl (hb hby own_d1_24) rfl ?_
            show Steps p.tables e below (s₁.setTop (mkF m 25 #[.val (.int p1)] [(.int p1)])) _
            refine X0.ldcI hx hown (mvT hZ (hw _ (List.mem_of_getElem? (i := 19) rfl))) rfl (hb hby own_d1_25) ?_
            exact k
          by_cases hc27 : (55295 : Int32) < p1
          · -- hc27 
            have pre22 : ∀ t, Steps p.tables e below (s₁.setTop (mkF m 33 #[.val (.int p1)] [(.int (57344 : Int32)), (.int p1)])) t → Steps p.tables e below (s₁.setTop (entryFrame m #[(.int p1)] 1)) t := by
              intro t k
              refine pre21 _ ?_
              show Steps p.tables e below (s₁.setTop (mkF m 27 #[.val (.int p1)] [(.int (55295 : Int32)), (.int p1)])) _
              refine XS.icmpNo X0.here hx rfl (hb hby own_d1_27) rfl (tlt hc27).2.2.2 ?_
              show Steps p.tables e below (s₁.setTop (mkF m 30 #[.val (.int p1)] [])) _
              refine XS.iloadN X0.here hx rfl (hb hby own_d1_30) rfl ?_
              show Steps p.tables e below (s₁.setTop (mkF m 31 #[.val (.int p1)] [(.int p1)])) _
              refine X0.ldcI hx hown (mvT hZ (hw _ (List.mem_of_getElem? (i := 10) rfl))) rfl (hb hby own_d1_31) ?_
              exact k
            by_cases hc33 : p1 < (57344 : Int32)
            · -- hc33 
              have pre23 : ∀ t, Steps p.tables e below (s₁.setTop (mkF m 45 #[.val (.int p1)] [(.int (65536 : Int32)), (.int p1)])) t → Steps p.tables e below (s₁.setTop (entryFrame m #[(.int p1)] 1)) t := by
                intro t k
                refine pre22 _ ?_
                show Steps p.tables e below (s₁.setTop (mkF m 33 #[.val (.int p1)] [(.int (57344 : Int32)), (.int p1)])) _
                refine XS.icmpYes X0.here hx rfl (pc0 := 33) (pc' := 42) rfl (hb hby own_d1_33) rfl (tlt hc33).1 (by decide) (by decide) ?_
                show Steps p.tables e below (s₁.setTop (mkF m 42 #[.val (.int p1)] [])) _
                refine XS.iloadN X0.here hx rfl (hb hby own_d1_42) rfl ?_
                show Steps p.tables e below (s₁.setTop (mkF m 43 #[.val (.int p1)] [(.int p1)])) _
                refine X0.ldcI hx hown (mvT hZ (hw _ (List.mem_of_getElem? (i := 11) rfl))) rfl (hb hby own_d1_43) ?_
                exact k
              by_cases hc45 : p1 < (65536 : Int32)
              · -- hc45 
                have pre24 : ∀ t, Steps p.tables e below (s₁.setTop (mkF m 59 #[.val (.int p1)] [(.int (0 : Int32))])) t → Steps p.tables e below (s₁.setTop (entryFrame m #[(.int p1)] 1)) t := by
                  intro t k
                  refine pre23 _ ?_
                  show Steps p.tables e below (s₁.setTop (mkF m 45 #[.val (.int p1)] [(.int (65536 : Int32)), (.int p1)])) _
                  refine XS.icmpYes X0.here hx rfl (pc0 := 45) (pc' := 58) rfl (hb hby own_d1_45) rfl (tlt hc45).1 (by decide) (by decide) ?_
                  show Steps p.tables e below (s₁.setTop (mkF m 58 #[.val (.int p1)] [])) _
                  refine XS.iconst X0.here hx rfl (hb hby own_d1_58) ?_
                  exact k
                obtain ⟨fs, hr, hrun, hended, hW, hsame⟩ := X0.leave (v := some (.int (0 : Int32))) (fun h => by rw [Bd.returns] at h; cases h)
                refine ⟨_, _, pre24 _ ?_, hrun, hended, _, _, rfl, ?_, ⟨_, rfl⟩, hW, hsame.mono (by decide) (by decide)⟩
                · show Steps p.tables e below (s₁.setTop (mkF m 59 #[.val (.int p1)] [(.int (0 : Int32))])) _
                  exact retN X0 hx (t := .boolean) Bd.returns (by simp) (hb hby own_d1_59) hr
                · show own_Q1 Z p1 h0 n0 _ s₁.heap _
                  rw [e0]
                  exact ⟨congrArg (fun z => some (Value.int z)) (show (0 : Int32) = (own_P p1) from own_P0 (by simp only [own_lt, own_eq, Int32.reduceToInt] at hc3 hc9 hc15 hc21 hc27 hc33 hc45; omega)), N0, rfl⟩
              · -- hc45 not
                have pre25 : ∀ t, Steps p.tables e below (s₁.setTop (mkF m 51 #[.val (.int p1)] [(.int (1114111 : Int32)), (.int p1)])) t → Steps p.tables e below (s₁.setTop (entryFrame m #[(.int p1)] 1)) t := by
                  intro t k
                  refine pre23 _ ?_
                  show Steps p.tables e below (s₁.setTop (mkF m 45 #[.val (.int p1)] [(.int (65536 : Int32)), (.int p1)])) _
                  refine XS.icmpNo X0.here hx rfl (hb hby own_d1_45) rfl (flt hc45).1 ?_
                  show Steps p.tables e below (s₁.setTop (mkF m 48 #[.val (.int p1)] [])) _
                  refine XS.iloadN X0.here hx rfl (hb hby own_d1_48) rfl ?_
                  show Steps p.tables e below (s₁.setTop (mkF m 49 #[.val (.int p1)] [(.int p1)])) _
                  refine X0.ldcI hx hown (mvT hZ (hw _ (List.mem_of_getElem? (i := 22) rfl))) rfl (hb hby own_d1_49) ?_
                  exact k
                by_cases hc51 : (1114111 : Int32) < p1
                · -- hc51 
                  have pre26 : ∀ t, Steps p.tables e below (s₁.setTop (mkF m 59 #[.val (.int p1)] [(.int (0 : Int32))])) t → Steps p.tables e below (s₁.setTop (entryFrame m #[(.int p1)] 1)) t := by
                    intro t k
                    refine pre25 _ ?_
                    show Steps p.tables e below (s₁.setTop (mkF m 51 #[.val (.int p1)] [(.int (1114111 : Int32)), (.int p1)])) _
                    refine XS.icmpYes X0.here hx rfl (pc0 := 51) (pc' := 58) rfl (hb hby own_d1_51) rfl (tlt hc51).2.2.1 (by decide) (by decide) ?_
                    show Steps p.tables e below (s₁.setTop (mkF m 58 #[.val (.int p1)] [])) _
                    refine XS.iconst X0.here hx rfl (hb hby own_d1_58) ?_
                    exact k
                  obtain ⟨fs, hr, hrun, hended, hW, hsame⟩ := X0.leave (v := some (.int (0 : Int32))) (fun h => by rw [Bd.returns] at h; cases h)
                  refine ⟨_, _, pre26 _ ?_, hrun, hended, _, _, rfl, ?_, ⟨_, rfl⟩, hW, hsame.mono (by decide) (by decide)⟩
                  · show Steps p.tables e below (s₁.setTop (mkF m 59 #[.val (.int p1)] [(.int (0 : Int32))])) _
                    exact retN X0 hx (t := .boolean) Bd.returns (by simp) (hb hby own_d1_59) hr
                  · show own_Q1 Z p1 h0 n0 _ s₁.heap _
                    rw [e0]
                    exact ⟨congrArg (fun z => some (Value.int z)) (show (0 : Int32) = (own_P p1) from own_P0 (by simp only [own_lt, own_eq, Int32.reduceToInt] at hc3 hc9 hc15 hc21 hc27 hc33 hc45 hc51; omega)), N0, rfl⟩
                · -- hc51 not
                  have pre27 : ∀ t, Steps p.tables e below (s₁.setTop (mkF m 59 #[.val (.int p1)] [(.int (1 : Int32))])) t → Steps p.tables e below (s₁.setTop (entryFrame m #[(.int p1)] 1)) t := by
                    intro t k
                    refine pre25 _ ?_
                    show Steps p.tables e below (s₁.setTop (mkF m 51 #[.val (.int p1)] [(.int (1114111 : Int32)), (.int p1)])) _
                    refine XS.icmpNo X0.here hx rfl (hb hby own_d1_51) rfl (flt hc51).2.2.1 ?_
                    show Steps p.tables e below (s₁.setTop (mkF m 54 #[.val (.int p1)] [])) _
                    refine XS.iconst X0.here hx rfl (hb hby own_d1_54) ?_
                    show Steps p.tables e below (s₁.setTop (mkF m 55 #[.val (.int p1)] [(.int (1 : Int32))])) _
                    refine XS.goto X0.here hx rfl (pc0 := 55) (pc' := 59) rfl (hb hby own_d1_55) (by decide) (by decide) ?_
                    exact k
                  obtain ⟨fs, hr, hrun, hended, hW, hsame⟩ := X0.leave (v := some (.int (1 : Int32))) (fun h => by rw [Bd.returns] at h; cases h)
                  refine ⟨_, _, pre27 _ ?_, hrun, hended, _, _, rfl, ?_, ⟨_, rfl⟩, hW, hsame.mono (by decide) (by decide)⟩
                  · show Steps p.tables e below (s₁.setTop (mkF m 59 #[.val (.int p1)] [(.int (1 : Int32))])) _
                    exact retN X0 hx (t := .boolean) Bd.returns (by simp) (hb hby own_d1_59) hr
                  · show own_Q1 Z p1 h0 n0 _ s₁.heap _
                    rw [e0]
                    exact ⟨congrArg (fun z => some (Value.int z)) (show (1 : Int32) = (own_P p1) from own_P1 (by simp only [own_lt, own_eq, Int32.reduceToInt] at hc3 hc9 hc15 hc21 hc27 hc33 hc45 hc51; omega)), N0, rfl⟩
            · -- hc33 not
              have pre28 : ∀ t, Steps p.tables e below (s₁.setTop (mkF m 39 #[.val (.int p1)] [(.int (65533 : Int32)), (.int p1)])) t → Steps p.tables e below (s₁.setTop (entryFrame m #[(.int p1)] 1)) t := by
                intro t k
                refine pre22 _ ?_
                show Steps p.tables e below (s₁.setTop (mkF m 33 #[.val (.int p1)] [(.int (57344 : Int32)), (.int p1)])) _
                refine XS.icmpNo X0.here hx rfl (hb hby own_d1_33) rfl (flt hc33).1 ?_
                show Steps p.tables e below (s₁.setTop (mkF m 36 #[.val (.int p1)] [])) _
                refine XS.iloadN X0.here hx rfl (hb hby own_d1_36) rfl ?_
                show Steps p.tables e below (s₁.setTop (mkF m 37 #[.val (.int p1)] [(.int p1)])) _
                refine X0.ldcI hx hown (mvT hZ (hw _ (List.mem_of_getElem? (i := 20) rfl))) rfl (hb hby own_d1_37) ?_
                exact k
              by_cases hc39 : (65533 : Int32) < p1
              · -- hc39 
                have pre29 : ∀ t, Steps p.tables e below (s₁.setTop (mkF m 45 #[.val (.int p1)] [(.int (65536 : Int32)), (.int p1)])) t → Steps p.tables e below (s₁.setTop (entryFrame m #[(.int p1)] 1)) t := by
                  intro t k
                  refine pre28 _ ?_
                  show Steps p.tables e below (s₁.setTop (mkF m 39 #[.val (.int p1)] [(.int (65533 : Int32)), (.int p1)])) _
                  refine XS.icmpNo X0.here hx rfl (hb hby own_d1_39) rfl (tlt hc39).2.2.2 ?_
                  show Steps p.tables e below (s₁.setTop (mkF m 42 #[.val (.int p1)] [])) _
                  refine XS.iloadN X0.here hx rfl (hb hby own_d1_42) rfl ?_
                  show Steps p.tables e below (s₁.setTop (mkF m 43 #[.val (.int p1)] [(.int p1)])) _
                  refine X0.ldcI hx hown (mvT hZ (hw _ (List.mem_of_getElem? (i := 11) rfl))) rfl (hb hby own_d1_43) ?_
                  exact k
                by_cases hc45 : p1 < (65536 : Int32)
                · -- hc45 
                  have pre30 : ∀ t, Steps p.tables e below (s₁.setTop (mkF m 59 #[.val (.int p1)] [(.int (0 : Int32))])) t → Steps p.tables e below (s₁.setTop (entryFrame m #[(.int p1)] 1)) t := by
                    intro t k
                    refine pre29 _ ?_
                    show Steps p.tables e below (s₁.setTop (mkF m 45 #[.val (.int p1)] [(.int (65536 : Int32)), (.int p1)])) _
                    refine XS.icmpYes X0.here hx rfl (pc0 := 45) (pc' := 58) rfl (hb hby own_d1_45) rfl (tlt hc45).1 (by decide) (by decide) ?_
                    show Steps p.tables e below (s₁.setTop (mkF m 58 #[.val (.int p1)] [])) _
                    refine XS.iconst X0.here hx rfl (hb hby own_d1_58) ?_
                    exact k
                  obtain ⟨fs, hr, hrun, hended, hW, hsame⟩ := X0.leave (v := some (.int (0 : Int32))) (fun h => by rw [Bd.returns] at h; cases h)
                  refine ⟨_, _, pre30 _ ?_, hrun, hended, _, _, rfl, ?_, ⟨_, rfl⟩, hW, hsame.mono (by decide) (by decide)⟩
                  · show Steps p.tables e below (s₁.setTop (mkF m 59 #[.val (.int p1)] [(.int (0 : Int32))])) _
                    exact retN X0 hx (t := .boolean) Bd.returns (by simp) (hb hby own_d1_59) hr
                  · show own_Q1 Z p1 h0 n0 _ s₁.heap _
                    rw [e0]
                    exact ⟨congrArg (fun z => some (Value.int z)) (show (0 : Int32) = (own_P p1) from own_P0 (by simp only [own_lt, own_eq, Int32.reduceToInt] at hc3 hc9 hc15 hc21 hc27 hc33 hc39 hc45; omega)), N0, rfl⟩
                · -- hc45 not
                  have pre31 : ∀ t, Steps p.tables e below (s₁.setTop (mkF m 51 #[.val (.int p1)] [(.int (1114111 : Int32)), (.int p1)])) t → Steps p.tables e below (s₁.setTop (entryFrame m #[(.int p1)] 1)) t := by
                    intro t k
                    refine pre29 _ ?_
                    show Steps p.tables e below (s₁.setTop (mkF m 45 #[.val (.int p1)] [(.int (65536 : Int32)), (.int p1)])) _
                    refine XS.icmpNo X0.here hx rfl (hb hby own_d1_45) rfl (flt hc45).1 ?_
                    show Steps p.tables e below (s₁.setTop (mkF m 48 #[.val (.int p1)] [])) _
                    refine XS.iloadN X0.here hx rfl (hb hby own_d1_48) rfl ?_
                    show Steps p.tables e below (s₁.setTop (mkF m 49 #[.val (.int p1)] [(.int p1)])) _
                    refine X0.ldcI hx hown (mvT hZ (hw _ (List.mem_of_getElem? (i := 22) rfl))) rfl (hb hby own_d1_49) ?_
                    exact k
                  by_cases hc51 : (1114111 : Int32) < p1
                  · -- hc51 
                    have pre32 : ∀ t, Steps p.tables e below (s₁.setTop (mkF m 59 #[.val (.int p1)] [(.int (0 : Int32))])) t → Steps p.tables e below (s₁.setTop (entryFrame m #[(.int p1)] 1)) t := by
                      intro t k
                      refine pre31 _ ?_
                      show Steps p.tables e below (s₁.setTop (mkF m 51 #[.val (.int p1)] [(.int (1114111 : Int32)), (.int p1)])) _
                      refine XS.icmpYes X0.here hx rfl (pc0 := 51) (pc' := 58) rfl (hb hby own_d1_51) rfl (tlt hc51).2.2.1 (by decide) (by decide) ?_
                      show Steps p.tables e below (s₁.setTop (mkF m 58 #[.val (.int p1)] [])) _
                      refine XS.iconst X0.here hx rfl (hb hby own_d1_58) ?_
                      exact k
                    obtain ⟨fs, hr, hrun, hended, hW, hsame⟩ := X0.leave (v := some (.int (0 : Int32))) (fun h => by rw [Bd.returns] at h; cases h)
                    refine ⟨_, _, pre32 _ ?_, hrun, hended, _, _, rfl, ?_, ⟨_, rfl⟩, hW, hsame.mono (by decide) (by decide)⟩
                    · show Steps p.tables e below (s₁.setTop (mkF m 59 #[.val (.int p1)] [(.int (0 : Int32))])) _
                      exact retN X0 hx (t := .boolean) Bd.returns (by simp) (hb hby own_d1_59) hr
                    · show own_Q1 Z p1 h0 n0 _ s₁.heap _
                      rw [e0]
                      exact ⟨congrArg (fun z => some (Value.int z)) (show (0 : Int32) = (own_P p1) from own_P0 (by simp only [own_lt, own_eq, Int32.reduceToInt] at hc3 hc9 hc15 hc21 hc27 hc33 hc39 hc45 hc51; omega)), N0, rfl⟩
                  · -- hc51 not
                    have pre33 : ∀ t, Steps p.tables e below (s₁.setTop (mkF m 59 #[.val (.int p1)] [(.int (1 : Int32))])) t → Steps p.tables e below (s₁.setTop (entryFrame m #[(.int p1)] 1)) t := by
                      intro t k
                      refine pre31 _ ?_
                      show Steps p.tables e below (s₁.setTop (mkF m 51 #[.val (.int p1)] [(.int (1114111 : Int32)), (.int p1)])) _
                      refine XS.icmpNo X0.here hx rfl (hb hby own_d1_51) rfl (flt hc51).2.2.1 ?_
                      show Steps p.tables e below (s₁.setTop (mkF m 54 #[.val (.int p1)] [])) _
                      refine XS.iconst X0.here hx rfl (hb hby own_d1_54) ?_
                      show Steps p.tables e below (s₁.setTop (mkF m 55 #[.val (.int p1)] [(.int (1 : Int32))])) _
                      refine XS.goto X0.here hx rfl (pc0 := 55) (pc' := 59) rfl (hb hby own_d1_55) (by decide) (by decide) ?_
                      exact k
                    obtain ⟨fs, hr, hrun, hended, hW, hsame⟩ := X0.leave (v := some (.int (1 : Int32))) (fun h => by rw [Bd.returns] at h; cases h)
                    refine ⟨_, _, pre33 _ ?_, hrun, hended, _, _, rfl, ?_, ⟨_, rfl⟩, hW, hsame.mono (by decide) (by decide)⟩
                    · show Steps p.tables e below (s₁.setTop (mkF m 59 #[.val (.int p1)] [(.int (1 : Int32))])) _
                      exact retN X0 hx (t := .boolean) Bd.returns (by simp) (hb hby own_d1_59) hr
                    · show own_Q1 Z p1 h0 n0 _ s₁.heap _
                      rw [e0]
                      exact ⟨congrArg (fun z => some (Value.int z)) (show (1 : Int32) = (own_P p1) from own_P1 (by simp only [own_lt, own_eq, Int32.reduceToInt] at hc3 hc9 hc15 hc21 hc27 hc33 hc39 hc45 hc51; omega)), N0, rfl⟩
              · -- hc39 not
                have pre34 : ∀ t, Steps p.tables e below (s₁.setTop (mkF m 59 #[.val (.int p1)] [(.int (1 : Int32))])) t → Steps p.tables e below (s₁.setTop (entryFrame m #[(.int p1)] 1)) t := by
                  intro t k
                  refine pre28 _ ?_
                  show Steps p.tables e below (s₁.setTop (mkF m 39 #[.val (.int p1)] [(.int (65533 : Int32)), (.int p1)])) _
                  refine XS.icmpYes X0.here hx rfl (pc0 := 39) (pc' := 54) rfl (hb hby own_d1_39) rfl (flt hc39).2.2.2 (by decide) (by decide) ?_
                  show Steps p.tables e below (s₁.setTop (mkF m 54 #[.val (.int p1)] [])) _
                  refine XS.iconst X0.here hx rfl (hb hby own_d1_54) ?_
                  show Steps p.tables e below (s₁.setTop (mkF m 55 #[.val (.int p1)] [(.int (1 : Int32))])) _
                  refine XS.goto X0.here hx rfl (pc0 := 55) (pc' := 59) rfl (hb hby own_d1_55) (by decide) (by decide) ?_
                  exact k
                obtain ⟨fs, hr, hrun, hended, hW, hsame⟩ := X0.leave (v := some (.int (1 : Int32))) (fun h => by rw [Bd.returns] at h; cases h)
                refine ⟨_, _, pre34 _ ?_, hrun, hended, _, _, rfl, ?_, ⟨_, rfl⟩, hW, hsame.mono (by decide) (by decide)⟩
                · show Steps p.tables e below (s₁.setTop (mkF m 59 #[.val (.int p1)] [(.int (1 : Int32))])) _
                  exact retN X0 hx (t := .boolean) Bd.returns (by simp) (hb hby own_d1_59) hr
                · show own_Q1 Z p1 h0 n0 _ s₁.heap _
                  rw [e0]
                  exact ⟨congrArg (fun z => some (Value.int z)) (show (1 : Int32) = (own_P p1) from own_P1 (by simp only [own_lt, own_eq, Int32.reduceToInt] at hc3 hc9 hc15 hc21 hc27 hc33 hc39; omega)), N0, rfl⟩
          · -- hc27 not
            have pre35 : ∀ t, Steps p.tables e below (s₁.setTop (mkF m 59 #[.val (.int p1)] [(.int (1 : Int32))])) t → Steps p.tables e below (s₁.setTop (entryFrame m #[(.int p1)] 1)) t := by
              intro t k
              refine pre21 _ ?_
              show Steps p.tables e below (s₁.setTop (mkF m 27 #[.val (.int p1)] [(.int (55295 : Int32)), (.int p1)])) _
              refine XS.icmpYes X0.here hx rfl (pc0 := 27) (pc' := 54) rfl (hb hby own_d1_27) rfl (flt hc27).2.2.2 (by decide) (by decide) ?_
              show Steps p.tables e below (s₁.setTop (mkF m 54 #[.val (.int p1)] [])) _
              refine XS.iconst X0.here hx rfl (hb hby own_d1_54) ?_
              show Steps p.tables e below (s₁.setTop (mkF m 55 #[.val (.int p1)] [(.int (1 : Int32))])) _
              refine XS.goto X0.here hx rfl (pc0 := 55) (pc' := 59) rfl (hb hby own_d1_55) (by decide) (by decide) ?_
              exact k
            obtain ⟨fs, hr, hrun, hended, hW, hsame⟩ := X0.leave (v := some (.int (1 : Int32))) (fun h => by rw [Bd.returns] at h; cases h)
            refine ⟨_, _, pre35 _ ?_, hrun, hended, _, _, rfl, ?_, ⟨_, rfl⟩, hW, hsame.mono (by decide) (by decide)⟩
            · show Steps p.tables e below (s₁.setTop (mkF m 59 #[.val (.int p1)] [(.int (1 : Int32))])) _
              exact retN X0 hx (t := .boolean) Bd.returns (by simp) (hb hby own_d1_59) hr
            · show own_Q1 Z p1 h0 n0 _ s₁.heap _
              rw [e0]
              exact ⟨congrArg (fun z => some (Value.int z)) (show (1 : Int32) = (own_P p1) from own_P1 (by simp only [own_lt, own_eq, Int32.reduceToInt] at hc3 hc9 hc15 hc21 hc27; omega)), N0, rfl⟩
theorem own_d2_0 : decode method_3_code 0 = .ok (.iload_n 0, 1) := by decide +kernel
theorem own_d2_1 : decode method_3_code 1 = .ok (.ifCond .lt 13, 3) := by decide +kernel
theorem own_d2_4 : decode method_3_code 4 = .ok (.iload_n 0, 1) := by decide +kernel
theorem own_d2_5 : decode method_3_code 5 = .ok (.ldc 11, 2) := by decide +kernel
theorem own_d2_7 : decode method_3_code 7 = .ok (.if_icmp .gt 7, 3) := by decide +kernel
theorem own_d2_10 : decode method_3_code 10 = .ok (.iconst 1, 1) := by decide +kernel
theorem own_d2_11 : decode method_3_code 11 = .ok (.goto 4, 3) := by decide +kernel
theorem own_d2_14 : decode method_3_code 14 = .ok (.iconst 0, 1) := by decide +kernel
theorem own_d2_15 : decode method_3_code 15 = .ok (.istore_n 1, 1) := by decide +kernel
theorem own_d2_16 : decode method_3_code 16 = .ok (.iload_n 0, 1) := by decide +kernel
theorem own_d2_17 : decode method_3_code 17 = .ok (.bipush 32, 2) := by decide +kernel
theorem own_d2_19 : decode method_3_code 19 = .ok (.if_icmp .ge 25, 3) := by decide +kernel
theorem own_d2_22 : decode method_3_code 22 = .ok (.iload_n 0, 1) := by decide +kernel
theorem own_d2_23 : decode method_3_code 23 = .ok (.bipush 9, 2) := by decide +kernel
theorem own_d2_25 : decode method_3_code 25 = .ok (.if_icmp .eq 19, 3) := by decide +kernel
theorem own_d2_28 : decode method_3_code 28 = .ok (.iload_n 0, 1) := by decide +kernel
theorem own_d2_29 : decode method_3_code 29 = .ok (.bipush 10, 2) := by decide +kernel
theorem own_d2_31 : decode method_3_code 31 = .ok (.if_icmp .eq 13, 3) := by decide +kernel
theorem own_d2_34 : decode method_3_code 34 = .ok (.iload_n 0, 1) := by decide +kernel
theorem own_d2_35 : decode method_3_code 35 = .ok (.bipush 13, 2) := by decide +kernel
theorem own_d2_37 : decode method_3_code 37 = .ok (.if_icmp .eq 7, 3) := by decide +kernel
theorem own_d2_40 : decode method_3_code 40 = .ok (.iconst 1, 1) := by decide +kernel
theorem own_d2_41 : decode method_3_code 41 = .ok (.goto 4, 3) := by decide +kernel
theorem own_d2_44 : decode method_3_code 44 = .ok (.iconst 0, 1) := by decide +kernel
theorem own_d2_45 : decode method_3_code 45 = .ok (.istore_n 2, 1) := by decide +kernel
theorem own_d2_46 : decode method_3_code 46 = .ok (.iload_n 0, 1) := by decide +kernel
theorem own_d2_47 : decode method_3_code 47 = .ok (.ldc 23, 2) := by decide +kernel
theorem own_d2_49 : decode method_3_code 49 = .ok (.if_icmp .lt 13, 3) := by decide +kernel
theorem own_d2_52 : decode method_3_code 52 = .ok (.iload_n 0, 1) := by decide +kernel
theorem own_d2_53 : decode method_3_code 53 = .ok (.ldc 24, 2) := by decide +kernel
theorem own_d2_55 : decode method_3_code 55 = .ok (.if_icmp .gt 7, 3) := by decide +kernel
theorem own_d2_58 : decode method_3_code 58 = .ok (.iconst 1, 1) := by decide +kernel
theorem own_d2_59 : decode method_3_code 59 = .ok (.goto 4, 3) := by decide +kernel
theorem own_d2_62 : decode method_3_code 62 = .ok (.iconst 0, 1) := by decide +kernel
theorem own_d2_63 : decode method_3_code 63 = .ok (.istore_n 3, 1) := by decide +kernel
theorem own_d2_64 : decode method_3_code 64 = .ok (.iload_n 0, 1) := by decide +kernel
theorem own_d2_65 : decode method_3_code 65 = .ok (.ldc 25, 2) := by decide +kernel
theorem own_d2_67 : decode method_3_code 67 = .ok (.if_icmp .eq 9, 3) := by decide +kernel
theorem own_d2_70 : decode method_3_code 70 = .ok (.iload_n 0, 1) := by decide +kernel
theorem own_d2_71 : decode method_3_code 71 = .ok (.ldc 26, 2) := by decide +kernel
theorem own_d2_73 : decode method_3_code 73 = .ok (.if_icmp .ne 7, 3) := by decide +kernel
theorem own_d2_76 : decode method_3_code 76 = .ok (.iconst 1, 1) := by decide +kernel
theorem own_d2_77 : decode method_3_code 77 = .ok (.goto 4, 3) := by decide +kernel
theorem own_d2_80 : decode method_3_code 80 = .ok (.iconst 0, 1) := by decide +kernel
theorem own_d2_81 : decode method_3_code 81 = .ok (.istore 4, 2) := by decide +kernel
theorem own_d2_83 : decode method_3_code 83 = .ok (.iload_n 1, 1) := by decide +kernel
theorem own_d2_84 : decode method_3_code 84 = .ok (.ifCond .eq 20, 3) := by decide +kernel
theorem own_d2_87 : decode method_3_code 87 = .ok (.iload_n 2, 1) := by decide +kernel
theorem own_d2_88 : decode method_3_code 88 = .ok (.ifCond .ne 16, 3) := by decide +kernel
theorem own_d2_91 : decode method_3_code 91 = .ok (.iload_n 3, 1) := by decide +kernel
theorem own_d2_92 : decode method_3_code 92 = .ok (.ifCond .ne 12, 3) := by decide +kernel
theorem own_d2_95 : decode method_3_code 95 = .ok (.iload 4, 2) := by decide +kernel
theorem own_d2_97 : decode method_3_code 97 = .ok (.ifCond .ne 7, 3) := by decide +kernel
theorem own_d2_100 : decode method_3_code 100 = .ok (.iconst 1, 1) := by decide +kernel
theorem own_d2_101 : decode method_3_code 101 = .ok (.goto 4, 3) := by decide +kernel
theorem own_d2_104 : decode method_3_code 104 = .ok (.iconst 0, 1) := by decide +kernel
theorem own_d2_105 : decode method_3_code 105 = .ok (.ireturn, 1) := by decide +kernel
theorem own_ef2 (m : MethodId) (x0 : Int32) : entryFrame m #[(.int x0)] 5 = mkF m 0 #[.val (.int x0), .unset, .unset, .unset, .unset] [] := by first | (simp [entryFrame, mkF, argsToLocals, Value.category]; done) | rfl
def own_Q2 (Z : State) (p1 : Int32) (h0 : Heap) (n0 : Nat) (v : Option Value) (h : Heap) (L : List Loc) : Prop := v = some (.int (own_P p1)) ∧ Fr n0 L ∧ h = h0
set_option maxRecDepth 65536 in
set_option maxHeartbeats 40000000 in
theorem rm2 (l : Launch) (Z : State) (a0 : Array Value) (hw : ∀ d ∈ tables_1, d.before a0 Z = true) (ws : List Jvm.Cond) (p1 : Int32) (h0 : Heap) (n0 : Nat) (Z0 : n0 ≤ h0.size)  :
    MetFree l (⟨"com/example/kennet/kennet/xdm/CharactersIsPermittedPinLaw", "expected", "(I)Z"⟩ : MethodName) (head1 (Jvm.Cond.code (⟨"com/example/kennet/kennet/xdm/CharactersIsPermittedPinLaw", "expected", "(I)Z"⟩ : MethodName) method_3_code 5 (some .boolean) :: ws) ({ frames := 0, cells := 0, slots := 0, locals := 0 } : Room)) (fun a U => a = #[(.int p1)] ∧ Z.Warmed39 U.vm ∧ U.heap = h0) (fun _ _ _ _ _ => True) (fun _ U o U' => ∃ v L, o = .returned v ∧ own_Q2 Z p1 h0 n0 v U'.heap L ∧ FrameEnd U o U' L ({ frames := 0, cells := 0, slots := 0, locals := 0 } : Room).cells ({ frames := 0, cells := 0, slots := 0, locals := 0 } : Room).slots) := by
  refine MetFree.of_bodySF (plainFor_of_name own_pn2) hisR ?_
  intro p e s m args below meth c s₁ Bd hml0 hP hK
  obtain ⟨rfl, hZ, hh⟩ := hP
  have hx := Bd.exec
  have hby := Bd.bytes
  have hml : c.maxLocals = 5 := hml0
  have hown : s.vm.findClass "com/example/kennet/kennet/xdm/CharactersIsPermittedPinLaw" = some m.cls := findClass_of_methodNamed Bd.named
  have hnm := (name_of_methodNamed Bd.named Bd.method).1
  have X0 : Stand p l e ({ frames := 0, cells := 0, slots := 0, locals := 0 } : Room) s m #[(.int p1)] below meth c s₁ [] 0 0 := Stand.of_body Bd
  have e0 : s₁.heap = h0 := by rw [← hh, Bd.state]; rfl
  have N0 := Fr.nil n0
  have pre0 : ∀ t, Steps p.tables e below (s₁.setTop (mkF m 0 #[.val (.int p1), .unset, .unset, .unset, .unset] [])) t → Steps p.tables e below (s₁.setTop (entryFrame m #[(.int p1)] 5)) t := fun t k => castTop (own_ef2 m p1) k
  obtain ⟨w1, hw1, pre1⟩ : ∃ (w1 : Int32), (w1 = 0 ↔ ¬ (0 ≤ p1.toInt ∧ p1.toInt ≤ 1114111)) ∧ ∀ t, Steps p.tables e below (s₁.setTop (mkF m 15 #[.val (.int p1), .unset, .unset, .unset, .unset] [(.int w1)])) t → Steps p.tables e below (s₁.setTop (entryFrame m #[(.int p1)] 5)) t := by
    have pre2 : ∀ t, Steps p.tables e below (s₁.setTop (mkF m 1 #[.val (.int p1), .unset, .unset, .unset, .unset] [(.int p1)])) t → Steps p.tables e below (s₁.setTop (entryFrame m #[(.int p1)] 5)) t := by
      intro t k
      refine pre0 _ ?_
      show Steps p.tables e below (s₁.setTop (mkF m 0 #[.val (.int p1), .unset, .unset, .unset, .unset] [])) _
      refine XS.iloadN X0.here hx rfl (hb hby own_d2_0) rfl ?_
      exact k
    by_cases hc1 : p1 < (0 : Int32)
    · -- hc1 
      refine ⟨(0 : Int32), by exact own_iff0 (by simp only [own_lt, own_eq, Int32.reduceToInt] at hc1; omega), fun t k => ?_⟩
      refine pre2 _ ?_
      show Steps p.tables e below (s₁.setTop (mkF m 1 #[.val (.int p1), .unset, .unset, .unset, .unset] [(.int p1)])) _
      refine XS.ifYes X0.here hx rfl (pc0 := 1) (pc' := 14) rfl (hb hby own_d2_1) rfl ((if0 _ _).trans (tlt hc1).1) (by decide) (by decide) ?_
      show Steps p.tables e below (s₁.setTop (mkF m 14 #[.val (.int p1), .unset, .unset, .unset, .unset] [])) _
      refine XS.iconst X0.here hx rfl (hb hby own_d2_14) ?_
      exact k
    · -- hc1 not
      have pre3 : ∀ t, Steps p.tables e below (s₁.setTop (mkF m 7 #[.val (.int p1), .unset, .unset, .unset, .unset] [(.int (1114111 : Int32)), (.int p1)])) t → Steps p.tables e below (s₁.setTop (entryFrame m #[(.int p1)] 5)) t := by
        intro t k
        refine pre2 _ ?_
        show Steps p.tables e below (s₁.setTop (mkF m 1 #[.val (.int p1), .unset, .unset, .unset, .unset] [(.int p1)])) _
        refine XS.ifNo X0.here hx rfl (hb hby own_d2_1) rfl ((if0 _ _).trans (flt hc1).1) ?_
        show Steps p.tables e below (s₁.setTop (mkF m 4 #[.val (.int p1), .unset, .unset, .unset, .unset] [])) _
        refine XS.iloadN X0.here hx rfl (hb hby own_d2_4) rfl ?_
        show Steps p.tables e below (s₁.setTop (mkF m 5 #[.val (.int p1), .unset, .unset, .unset, .unset] [(.int p1)])) _
        refine X0.ldcI hx hown (mvT hZ (hw _ (List.mem_of_getElem? (i := 5) rfl))) rfl (hb hby own_d2_5) ?_
        exact k
      by_cases hc7 : (1114111 : Int32) < p1
      · -- hc7 
        refine ⟨(0 : Int32), by exact own_iff0 (by simp only [own_lt, own_eq, Int32.reduceToInt] at hc1 hc7; omega), fun t k => ?_⟩
        refine pre3 _ ?_
        show Steps p.tables e below (s₁.setTop (mkF m 7 #[.val (.int p1), .unset, .unset, .unset, .unset] [(.int (1114111 : Int32)), (.int p1)])) _
        refine XS.icmpYes X0.here hx rfl (pc0 := 7) (pc' := 14) rfl (hb hby own_d2_7) rfl (tlt hc7).2.2.1 (by decide) (by decide) ?_
        show Steps p.tables e below (s₁.setTop (mkF m 14 #[.val (.int p1), .unset, .unset, .unset, .unset] [])) _
        refine XS.iconst X0.here hx rfl (hb hby own_d2_14) ?_
        exact k
      · -- hc7 not
        refine ⟨(1 : Int32), by exact own_iff1 (by simp only [own_lt, own_eq, Int32.reduceToInt] at hc1 hc7; omega), fun t k => ?_⟩
        refine pre3 _ ?_
        show Steps p.tables e below (s₁.setTop (mkF m 7 #[.val (.int p1), .unset, .unset, .unset, .unset] [(.int (1114111 : Int32)), (.int p1)])) _
        refine XS.icmpNo X0.here hx rfl (hb hby own_d2_7) rfl (flt hc7).2.2.1 ?_
        show Steps p.tables e below (s₁.setTop (mkF m 10 #[.val (.int p1), .unset, .unset, .unset, .unset] [])) _
        refine XS.iconst X0.here hx rfl (hb hby own_d2_10) ?_
        show Steps p.tables e below (s₁.setTop (mkF m 11 #[.val (.int p1), .unset, .unset, .unset, .unset] [(.int (1 : Int32))])) _
        refine XS.goto X0.here hx rfl (pc0 := 11) (pc' := 15) rfl (hb hby own_d2_11) (by decide) (by decide) ?_
        exact k
  have pre4 : ∀ t, Steps p.tables e below (s₁.setTop (mkF m 16 #[.val (.int p1), .val (.int w1), .unset, .unset, .unset] [])) t → Steps p.tables e below (s₁.setTop (entryFrame m #[(.int p1)] 5)) t := by
    intro t k
    refine pre1 _ ?_
    show Steps p.tables e below (s₁.setTop (mkF m 15 #[.val (.int p1), .unset, .unset, .unset, .unset] [(.int w1)])) _
    refine XS.istoreN X0.here hx rfl (hb hby own_d2_15) rfl (l' := #[.val (.int p1), .val (.int w1), .unset, .unset, .unset]) rfl ?_
    exact k
  obtain ⟨w2, hw2, pre5⟩ : ∃ (w2 : Int32), (w2 = 0 ↔ ¬ (p1.toInt < 32 ∧ ¬ p1.toInt = 9 ∧ ¬ p1.toInt = 10 ∧ ¬ p1.toInt = 13)) ∧ ∀ t, Steps p.tables e below (s₁.setTop (mkF m 45 #[.val (.int p1), .val (.int w1), .unset, .unset, .unset] [(.int w2)])) t → Steps p.tables e below (s₁.setTop (entryFrame m #[(.int p1)] 5)) t := by
    have pre6 : ∀ t, Steps p.tables e below (s₁.setTop (mkF m 19 #[.val (.int p1), .val (.int w1), .unset, .unset, .unset] [(.int (32 : Int32)), (.int p1)])) t → Steps p.tables e below (s₁.setTop (entryFrame m #[(.int p1)] 5)) t := by
      intro t k
      refine pre4 _ ?_
      show Steps p.tables e below (s₁.setTop (mkF m 16 #[.val (.int p1), .val (.int w1), .unset, .unset, .unset] [])) _
      refine XS.iloadN X0.here hx rfl (hb hby own_d2_16) rfl ?_
      show Steps p.tables e below (s₁.setTop (mkF m 17 #[.val (.int p1), .val (.int w1), .unset, .unset, .unset] [(.int p1)])) _
      refine XS.bipush X0.here hx rfl (hb hby own_d2_17) ?_
      exact k
    by_cases hc19 : p1 < (32 : Int32)
    · -- hc19 
      have pre7 : ∀ t, Steps p.tables e below (s₁.setTop (mkF m 25 #[.val (.int p1), .val (.int w1), .unset, .unset, .unset] [(.int (9 : Int32)), (.int p1)])) t → Steps p.tables e below (s₁.setTop (entryFrame m #[(.int p1)] 5)) t := by
        intro t k
        refine pre6 _ ?_
        show Steps p.tables e below (s₁.setTop (mkF m 19 #[.val (.int p1), .val (.int w1), .unset, .unset, .unset] [(.int (32 : Int32)), (.int p1)])) _
        refine XS.icmpNo X0.here hx rfl (hb hby own_d2_19) rfl (tlt hc19).2.1 ?_
        show Steps p.tables e below (s₁.setTop (mkF m 22 #[.val (.int p1), .val (.int w1), .unset, .unset, .unset] [])) _
        refine XS.iloadN X0.here hx rfl (hb hby own_d2_22) rfl ?_
        show Steps p.tables e below (s₁.setTop (mkF m 23 #[.val (.int p1), .val (.int w1), .unset, .unset, .unset] [(.int p1)])) _
        refine XS.bipush X0.here hx rfl (hb hby own_d2_23) ?_
        exact k
      by_cases hc25 : p1 = (9 : Int32)
      · -- hc25 
        refine ⟨(0 : Int32), by exact own_iff0 (by simp only [own_lt, own_eq, Int32.reduceToInt] at hc19 hc25; omega), fun t k => ?_⟩
        refine pre7 _ ?_
        show Steps p.tables e below (s₁.setTop (mkF m 25 #[.val (.int p1), .val (.int w1), .unset, .unset, .unset] [(.int (9 : Int32)), (.int p1)])) _
        refine XS.icmpYes X0.here hx rfl (pc0 := 25) (pc' := 44) rfl (hb hby own_d2_25) rfl (teq hc25).1 (by decide) (by decide) ?_
        show Steps p.tables e below (s₁.setTop (mkF m 44 #[.val (.int p1), .val (.int w1), .unset, .unset, .unset] [])) _
        refine XS.iconst X0.here hx rfl (hb hby own_d2_44) ?_
        exact k
      · -- hc25 not
        have pre8 : ∀ t, Steps p.tables e below (s₁.setTop (mkF m 31 #[.val (.int p1), .val (.int w1), .unset, .unset, .unset] [(.int (10 : Int32)), (.int p1)])) t → Steps p.tables e below (s₁.setTop (entryFrame m #[(.int p1)] 5)) t := by
          intro t k
          refine pre7 _ ?_
          show Steps p.tables e below (s₁.setTop (mkF m 25 #[.val (.int p1), .val (.int w1), .unset, .unset, .unset] [(.int (9 : Int32)), (.int p1)])) _
          refine XS.icmpNo X0.here hx rfl (hb hby own_d2_25) rfl (feq hc25).1 ?_
          show Steps p.tables e below (s₁.setTop (mkF m 28 #[.val (.int p1), .val (.int w1), .unset, .unset, .unset] [])) _
          refine XS.iloadN X0.here hx rfl (hb hby own_d2_28) rfl ?_
          show Steps p.tables e below (s₁.setTop (mkF m 29 #[.val (.int p1), .val (.int w1), .unset, .unset, .unset] [(.int p1)])) _
          refine XS.bipush X0.here hx rfl (hb hby own_d2_29) ?_
          exact k
        by_cases hc31 : p1 = (10 : Int32)
        · -- hc31 
          refine ⟨(0 : Int32), by exact own_iff0 (by simp only [own_lt, own_eq, Int32.reduceToInt] at hc19 hc25 hc31; omega), fun t k => ?_⟩
          refine pre8 _ ?_
          show Steps p.tables e below (s₁.setTop (mkF m 31 #[.val (.int p1), .val (.int w1), .unset, .unset, .unset] [(.int (10 : Int32)), (.int p1)])) _
          refine XS.icmpYes X0.here hx rfl (pc0 := 31) (pc' := 44) rfl (hb hby own_d2_31) rfl (teq hc31).1 (by decide) (by decide) ?_
          show Steps p.tables e below (s₁.setTop (mkF m 44 #[.val (.int p1), .val (.int w1), .unset, .unset, .unset] [])) _
          refine XS.iconst X0.here hx rfl (hb hby own_d2_44) ?_
          exact k
        · -- hc31 not
          have pre9 : ∀ t, Steps p.tables e below (s₁.setTop (mkF m 37 #[.val (.int p1), .val (.int w1), .unset, .unset, .unset] [(.int (13 : Int32)), (.int p1)])) t → Steps p.tables e below (s₁.setTop (entryFrame m #[(.int p1)] 5)) t := by
            intro t k
            refine pre8 _ ?_
            show Steps p.tables e below (s₁.setTop (mkF m 31 #[.val (.int p1), .val (.int w1), .unset, .unset, .unset] [(.int (10 : Int32)), (.int p1)])) _
            refine XS.icmpNo X0.here hx rfl (hb hby own_d2_31) rfl (feq hc31).1 ?_
            show Steps p.tables e below (s₁.setTop (mkF m 34 #[.val (.int p1), .val (.int w1), .unset, .unset, .unset] [])) _
            refine XS.iloadN X0.here hx rfl (hb hby own_d2_34) rfl ?_
            show Steps p.tables e below (s₁.setTop (mkF m 35 #[.val (.int p1), .val (.int w1), .unset, .unset, .unset] [(.int p1)])) _
            refine XS.bipush X0.here hx rfl (hb hby own_d2_35) ?_
            exact k
          by_cases hc37 : p1 = (13 : Int32)
          · -- hc37 
            refine ⟨(0 : Int32), by exact own_iff0 (by simp only [own_lt, own_eq, Int32.reduceToInt] at hc19 hc25 hc31 hc37; omega), fun t k => ?_⟩
            refine pre9 _ ?_
            show Steps p.tables e below (s₁.setTop (mkF m 37 #[.val (.int p1), .val (.int w1), .unset, .unset, .unset] [(.int (13 : Int32)), (.int p1)])) _
            refine XS.icmpYes X0.here hx rfl (pc0 := 37) (pc' := 44) rfl (hb hby own_d2_37) rfl (teq hc37).1 (by decide) (by decide) ?_
            show Steps p.tables e below (s₁.setTop (mkF m 44 #[.val (.int p1), .val (.int w1), .unset, .unset, .unset] [])) _
            refine XS.iconst X0.here hx rfl (hb hby own_d2_44) ?_
            exact k
          · -- hc37 not
            refine ⟨(1 : Int32), by exact own_iff1 (by simp only [own_lt, own_eq, Int32.reduceToInt] at hc19 hc25 hc31 hc37; omega), fun t k => ?_⟩
            refine pre9 _ ?_
            show Steps p.tables e below (s₁.setTop (mkF m 37 #[.val (.int p1), .val (.int w1), .unset, .unset, .unset] [(.int (13 : Int32)), (.int p1)])) _
            refine XS.icmpNo X0.here hx rfl (hb hby own_d2_37) rfl (feq hc37).1 ?_
            show Steps p.tables e below (s₁.setTop (mkF m 40 #[.val (.int p1), .val (.int w1), .unset, .unset, .unset] [])) _
            refine XS.iconst X0.here hx rfl (hb hby own_d2_40) ?_
            show Steps p.tables e below (s₁.setTop (mkF m 41 #[.val (.int p1), .val (.int w1), .unset, .unset, .unset] [(.int (1 : Int32))])) _
            refine XS.goto X0.here hx rfl (pc0 := 41) (pc' := 45) rfl (hb hby own_d2_41) (by decide) (by decide) ?_
            exact k
    · -- hc19 not
      refine ⟨(0 : Int32), by exact own_iff0 (by simp only [own_lt, own_eq, Int32.reduceToInt] at hc19; omega), fun t k => ?_⟩
      refine pre6 _ ?_
      show Steps p.tables e below (s₁.setTop (mkF m 19 #[.val (.int p1), .val (.int w1), .unset, .unset, .unset] [(.int (32 : Int32)), (.int p1)])) _
      refine XS.icmpYes X0.here hx rfl (pc0 := 19) (pc' := 44) rfl (hb hby own_d2_19) rfl (flt hc19).2.1 (by decide) (by decide) ?_
      show Steps p.tables e below (s₁.setTop (mkF m 44 #[.val (.int p1), .val (.int w1), .unset, .unset, .unset] [])) _
      refine XS.iconst X0.here hx rfl (hb hby own_d2_44) ?_
      exact k
  have pre10 : ∀ t, Steps p.tables e below (s₁.setTop (mkF m 46 #[.val (.int p1), .val (.int w1), .val (.int w2), .unset, .unset] [])) t → Steps p.tables e below (s₁.setTop (entryFrame m #[(.int p1)] 5)) t := by
    intro t k
    refine pre5 _ ?_
    show Steps p.tables e below (s₁.setTop (mkF m 45 #[.val (.int p1), .val (.int w1), .unset, .unset, .unset] [(.int w2)])) _
    refine XS.istoreN X0.here hx rfl (hb hby own_d2_45) rfl (l' := #[.val (.int p1), .val (.int w1), .val (.int w2), .unset, .unset]) rfl ?_
    exact k
  obtain ⟨w3, hw3, pre11⟩ : ∃ (w3 : Int32), (w3 = 0 ↔ ¬ (55296 ≤ p1.toInt ∧ p1.toInt ≤ 57343)) ∧ ∀ t, Steps p.tables e below (s₁.setTop (mkF m 63 #[.val (.int p1), .val (.int w1), .val (.int w2), .unset, .unset] [(.int w3)])) t → Steps p.tables e below (s₁.setTop (entryFrame m #[(.int p1)] 5)) t := by
    have pre12 : ∀ t, Steps p.tables e below (s₁.setTop (mkF m 49 #[.val (.int p1), .val (.int w1), .val (.int w2), .unset, .unset] [(.int (55296 : Int32)), (.int p1)])) t → Steps p.tables e below (s₁.setTop (entryFrame m #[(.int p1)] 5)) t := by
      intro t k
      refine pre10 _ ?_
      show Steps p.tables e below (s₁.setTop (mkF m 46 #[.val (.int p1), .val (.int w1), .val (.int w2), .unset, .unset] [])) _
      refine XS.iloadN X0.here hx rfl (hb hby own_d2_46) rfl ?_
      show Steps p.tables e below (s₁.setTop (mkF m 47 #[.val (.int p1), .val (.int w1), .val (.int w2), .unset, .unset] [(.int p1)])) _
      refine X0.ldcI hx hown (mvT hZ (hw _ (List.mem_of_getElem? (i := 16) rfl))) rfl (hb hby own_d2_47) ?_
      exact k
    by_cases hc49 : p1 < (55296 : Int32)
    · -- hc49 
      refine ⟨(0 : Int32), by exact own_iff0 (by simp only [own_lt, own_eq, Int32.reduceToInt] at hc49; omega), fun t k => ?_⟩
      refine pre12 _ ?_
      show Steps p.tables e below (s₁.setTop (mkF m 49 #[.val (.int p1), .val (.int w1), .val (.int w2), .unset, .unset] [(.int (55296 : Int32)), (.int p1)])) _
      refine XS.icmpYes X0.here hx rfl (pc0 := 49) (pc' := 62) rfl (hb hby own_d2_49) rfl (tlt hc49).1 (by decide) (by decide) ?_
      show Steps p.tables e below (s₁.setTop (mkF m 62 #[.val (.int p1), .val (.int w1), .val (.int w2), .unset, .unset] [])) _
      refine XS.iconst X0.here hx rfl (hb hby own_d2_62) ?_
      exact k
    · -- hc49 not
      have pre13 : ∀ t, Steps p.tables e below (s₁.setTop (mkF m 55 #[.val (.int p1), .val (.int w1), .val (.int w2), .unset, .unset] [(.int (57343 : Int32)), (.int p1)])) t → Steps p.tables e below (s₁.setTop (entryFrame m #[(.int p1)] 5)) t := by
        intro t k
        refine pre12 _ ?_
        show Steps p.tables e below (s₁.setTop (mkF m 49 #[.val (.int p1), .val (.int w1), .val (.int w2), .unset, .unset] [(.int (55296 : Int32)), (.int p1)])) _
        refine XS.icmpNo X0.here hx rfl (hb hby own_d2_49) rfl (flt hc49).1 ?_
        show Steps p.tables e below (s₁.setTop (mkF m 52 #[.val (.int p1), .val (.int w1), .val (.int w2), .unset, .unset] [])) _
        refine XS.iloadN X0.here hx rfl (hb hby own_d2_52) rfl ?_
        show Steps p.tables e below (s₁.setTop (mkF m 53 #[.val (.int p1), .val (.int w1), .val (.int w2), .unset, .unset] [(.int p1)])) _
        refine X0.ldcI hx hown (mvT hZ (hw _ (List.mem_of_getElem? (i := 21) rfl))) rfl (hb hby own_d2_53) ?_
        exact k
      by_cases hc55 : (57343 : Int32) < p1
      · -- hc55 
        refine ⟨(0 : Int32), by exact own_iff0 (by simp only [own_lt, own_eq, Int32.reduceToInt] at hc49 hc55; omega), fun t k => ?_⟩
        refine pre13 _ ?_
        show Steps p.tables e below (s₁.setTop (mkF m 55 #[.val (.int p1), .val (.int w1), .val (.int w2), .unset, .unset] [(.int (57343 : Int32)), (.int p1)])) _
        refine XS.icmpYes X0.here hx rfl (pc0 := 55) (pc' := 62) rfl (hb hby own_d2_55) rfl (tlt hc55).2.2.1 (by decide) (by decide) ?_
        show Steps p.tables e below (s₁.setTop (mkF m 62 #[.val (.int p1), .val (.int w1), .val (.int w2), .unset, .unset] [])) _
        refine XS.iconst X0.here hx rfl (hb hby own_d2_62) ?_
        exact k
      · -- hc55 not
        refine ⟨(1 : Int32), by exact own_iff1 (by simp only [own_lt, own_eq, Int32.reduceToInt] at hc49 hc55; omega), fun t k => ?_⟩
        refine pre13 _ ?_
        show Steps p.tables e below (s₁.setTop (mkF m 55 #[.val (.int p1), .val (.int w1), .val (.int w2), .unset, .unset] [(.int (57343 : Int32)), (.int p1)])) _
        refine XS.icmpNo X0.here hx rfl (hb hby own_d2_55) rfl (flt hc55).2.2.1 ?_
        show Steps p.tables e below (s₁.setTop (mkF m 58 #[.val (.int p1), .val (.int w1), .val (.int w2), .unset, .unset] [])) _
        refine XS.iconst X0.here hx rfl (hb hby own_d2_58) ?_
        show Steps p.tables e below (s₁.setTop (mkF m 59 #[.val (.int p1), .val (.int w1), .val (.int w2), .unset, .unset] [(.int (1 : Int32))])) _
        refine XS.goto X0.here hx rfl (pc0 := 59) (pc' := 63) rfl (hb hby own_d2_59) (by decide) (by decide) ?_
        exact k
  have pre14 : ∀ t, Steps p.tables e below (s₁.setTop (mkF m 64 #[.val (.int p1), .val (.int w1), .val (.int w2), .val (.int w3), .unset] [])) t → Steps p.tables e below (s₁.setTop (entryFrame m #[(.int p1)] 5)) t := by
    intro t k
    refine pre11 _ ?_
    show Steps p.tables e below (s₁.setTop (mkF m 63 #[.val (.int p1), .val (.int w1), .val (.int w2), .unset, .unset] [(.int w3)])) _
    refine XS.istoreN X0.here hx rfl (hb hby own_d2_63) rfl (l' := #[.val (.int p1), .val (.int w1), .val (.int w2), .val (.int w3), .unset]) rfl ?_
    exact k
  obtain ⟨w4, hw4, pre15⟩ : ∃ (w4 : Int32), (w4 = 0 ↔ ¬ (p1.toInt = 65534 ∨ p1.toInt = 65535)) ∧ ∀ t, Steps p.tables e below (s₁.setTop (mkF m 81 #[.val (.int p1), .val (.int w1), .val (.int w2), .val (.int w3), .unset] [(.int w4)])) t → Steps p.tables e below (s₁.setTop (entryFrame m #[(.int p1)] 5)) t := by
    have pre16 : ∀ t, Steps p.tables e below (s₁.setTop (mkF m 67 #[.val (.int p1), .val (.int w1), .val (.int w2), .val (.int w3), .unset] [(.int (65534 : Int32)), (.int p1)])) t → Steps p.tables e below (s₁.setTop (entryFrame m #[(.int p1)] 5)) t := by
      intro t k
      refine pre14 _ ?_
      show Steps p.tables e below (s₁.setTop (mkF m 64 #[.val (.int p1), .val (.int w1), .val (.int w2), .val (.int w3), .unset] [])) _
      refine XS.iloadN X0.here hx rfl (hb hby own_d2_64) rfl ?_
      show Steps p.tables e below (s₁.setTop (mkF m 65 #[.val (.int p1), .val (.int w1), .val (.int w2), .val (.int w3), .unset] [(.int p1)])) _
      refine X0.ldcI hx hown (mvT hZ (hw _ (List.mem_of_getElem? (i := 17) rfl))) rfl (hb hby own_d2_65) ?_
      exact k
    by_cases hc67 : p1 = (65534 : Int32)
    · -- hc67 
      refine ⟨(1 : Int32), by exact own_iff1 (by simp only [own_lt, own_eq, Int32.reduceToInt] at hc67; omega), fun t k => ?_⟩
      refine pre16 _ ?_
      show Steps p.tables e below (s₁.setTop (mkF m 67 #[.val (.int p1), .val (.int w1), .val (.int w2), .val (.int w3), .unset] [(.int (65534 : Int32)), (.int p1)])) _
      refine XS.icmpYes X0.here hx rfl (pc0 := 67) (pc' := 76) rfl (hb hby own_d2_67) rfl (teq hc67).1 (by decide) (by decide) ?_
      show Steps p.tables e below (s₁.setTop (mkF m 76 #[.val (.int p1), .val (.int w1), .val (.int w2), .val (.int w3), .unset] [])) _
      refine XS.iconst X0.here hx rfl (hb hby own_d2_76) ?_
      show Steps p.tables e below (s₁.setTop (mkF m 77 #[.val (.int p1), .val (.int w1), .val (.int w2), .val (.int w3), .unset] [(.int (1 : Int32))])) _
      refine XS.goto X0.here hx rfl (pc0 := 77) (pc' := 81) rfl (hb hby own_d2_77) (by decide) (by decide) ?_
      exact k
    · -- hc67 not
      have pre17 : ∀ t, Steps p.tables e below (s₁.setTop (mkF m 73 #[.val (.int p1), .val (.int w1), .val (.int w2), .val (.int w3), .unset] [(.int (65535 : Int32)), (.int p1)])) t → Steps p.tables e below (s₁.setTop (entryFrame m #[(.int p1)] 5)) t := by
        intro t k
        refine pre16 _ ?_
        show Steps p.tables e below (s₁.setTop (mkF m 67 #[.val (.int p1), .val (.int w1), .val (.int w2), .val (.int w3), .unset] [(.int (65534 : Int32)), (.int p1)])) _
        refine XS.icmpNo X0.here hx rfl (hb hby own_d2_67) rfl (feq hc67).1 ?_
        show Steps p.tables e below (s₁.setTop (mkF m 70 #[.val (.int p1), .val (.int w1), .val (.int w2), .val (.int w3), .unset] [])) _
        refine XS.iloadN X0.here hx rfl (hb hby own_d2_70) rfl ?_
        show Steps p.tables e below (s₁.setTop (mkF m 71 #[.val (.int p1), .val (.int w1), .val (.int w2), .val (.int w3), .unset] [(.int p1)])) _
        refine X0.ldcI hx hown (mvT hZ (hw _ (List.mem_of_getElem? (i := 18) rfl))) rfl (hb hby own_d2_71) ?_
        exact k
      by_cases hc73 : p1 = (65535 : Int32)
      · -- hc73 
        refine ⟨(1 : Int32), by exact own_iff1 (by simp only [own_lt, own_eq, Int32.reduceToInt] at hc67 hc73; omega), fun t k => ?_⟩
        refine pre17 _ ?_
        show Steps p.tables e below (s₁.setTop (mkF m 73 #[.val (.int p1), .val (.int w1), .val (.int w2), .val (.int w3), .unset] [(.int (65535 : Int32)), (.int p1)])) _
        refine XS.icmpNo X0.here hx rfl (hb hby own_d2_73) rfl (teq hc73).2 ?_
        show Steps p.tables e below (s₁.setTop (mkF m 76 #[.val (.int p1), .val (.int w1), .val (.int w2), .val (.int w3), .unset] [])) _
        refine XS.iconst X0.here hx rfl (hb hby own_d2_76) ?_
        show Steps p.tables e below (s₁.setTop (mkF m 77 #[.val (.int p1), .val (.int w1), .val (.int w2), .val (.int w3), .unset] [(.int (1 : Int32))])) _
        refine XS.goto X0.here hx rfl (pc0 := 77) (pc' := 81) rfl (hb hby own_d2_77) (by decide) (by decide) ?_
        exact k
      · -- hc73 not
        refine ⟨(0 : Int32), by exact own_iff0 (by simp only [own_lt, own_eq, Int32.reduceToInt] at hc67 hc73; omega), fun t k => ?_⟩
        refine pre17 _ ?_
        show Steps p.tables e below (s₁.setTop (mkF m 73 #[.val (.int p1), .val (.int w1), .val (.int w2), .val (.int w3), .unset] [(.int (65535 : Int32)), (.int p1)])) _
        refine XS.icmpYes X0.here hx rfl (pc0 := 73) (pc' := 80) rfl (hb hby own_d2_73) rfl (feq hc73).2 (by decide) (by decide) ?_
        show Steps p.tables e below (s₁.setTop (mkF m 80 #[.val (.int p1), .val (.int w1), .val (.int w2), .val (.int w3), .unset] [])) _
        refine XS.iconst X0.here hx rfl (hb hby own_d2_80) ?_
        exact k
  have pre18 : ∀ t, Steps p.tables e below (s₁.setTop (mkF m 84 #[.val (.int p1), .val (.int w1), .val (.int w2), .val (.int w3), .val (.int w4)] [(.int w1)])) t → Steps p.tables e below (s₁.setTop (entryFrame m #[(.int p1)] 5)) t := by
    intro t k
    refine pre15 _ ?_
    show Steps p.tables e below (s₁.setTop (mkF m 81 #[.val (.int p1), .val (.int w1), .val (.int w2), .val (.int w3), .unset] [(.int w4)])) _
    refine XS.istore X0.here hx rfl (hb hby own_d2_81) rfl (l' := #[.val (.int p1), .val (.int w1), .val (.int w2), .val (.int w3), .val (.int w4)]) rfl ?_
    show Steps p.tables e below (s₁.setTop (mkF m 83 #[.val (.int p1), .val (.int w1), .val (.int w2), .val (.int w3), .val (.int w4)] [])) _
    refine XS.iloadN X0.here hx rfl (hb hby own_d2_83) rfl ?_
    exact k
  by_cases hc84 : w1 = (0 : Int32)
  · -- hc84 
    have pre19 : ∀ t, Steps p.tables e below (s₁.setTop (mkF m 105 #[.val (.int p1), .val (.int w1), .val (.int w2), .val (.int w3), .val (.int w4)] [(.int (0 : Int32))])) t → Steps p.tables e below (s₁.setTop (entryFrame m #[(.int p1)] 5)) t := by
      intro t k
      refine pre18 _ ?_
      show Steps p.tables e below (s₁.setTop (mkF m 84 #[.val (.int p1), .val (.int w1), .val (.int w2), .val (.int w3), .val (.int w4)] [(.int w1)])) _
      refine XS.ifYes X0.here hx rfl (pc0 := 84) (pc' := 104) rfl (hb hby own_d2_84) rfl ((if0 _ _).trans (teq hc84).1) (by decide) (by decide) ?_
      show Steps p.tables e below (s₁.setTop (mkF m 104 #[.val (.int p1), .val (.int w1), .val (.int w2), .val (.int w3), .val (.int w4)] [])) _
      refine XS.iconst X0.here hx rfl (hb hby own_d2_104) ?_
      exact k
    obtain ⟨fs, hr, hrun, hended, hW, hsame⟩ := X0.leave (v := some (.int (0 : Int32))) (fun h => by rw [Bd.returns] at h; cases h)
    refine ⟨_, _, pre19 _ ?_, hrun, hended, _, _, rfl, ?_, ⟨_, rfl⟩, hW, hsame.mono (by decide) (by decide)⟩
    · show Steps p.tables e below (s₁.setTop (mkF m 105 #[.val (.int p1), .val (.int w1), .val (.int w2), .val (.int w3), .val (.int w4)] [(.int (0 : Int32))])) _
      exact retN X0 hx (t := .boolean) Bd.returns (by simp) (hb hby own_d2_105) hr
    · show own_Q2 Z p1 h0 n0 _ s₁.heap _
      rw [e0]
      exact ⟨congrArg (fun z => some (Value.int z)) (show (0 : Int32) = (own_P p1) from own_P0 (by rw [hw1] at hc84; omega)), N0, rfl⟩
  · -- hc84 not
    have pre20 : ∀ t, Steps p.tables e below (s₁.setTop (mkF m 88 #[.val (.int p1), .val (.int w1), .val (.int w2), .val (.int w3), .val (.int w4)] [(.int w2)])) t → Steps p.tables e below (s₁.setTop (entryFrame m #[(.int p1)] 5)) t := by
      intro t k
      refine pre18 _ ?_
      show Steps p.tables e below (s₁.setTop (mkF m 84 #[.val (.int p1), .val (.int w1), .val (.int w2), .val (.int w3), .val (.int w4)] [(.int w1)])) _
      refine XS.ifNo X0.here hx rfl (hb hby own_d2_84) rfl ((if0 _ _).trans (feq hc84).1) ?_
      show Steps p.tables e below (s₁.setTop (mkF m 87 #[.val (.int p1), .val (.int w1), .val (.int w2), .val (.int w3), .val (.int w4)] [])) _
      refine XS.iloadN X0.here hx rfl (hb hby own_d2_87) rfl ?_
      exact k
    by_cases hc88 : w2 = (0 : Int32)
    · -- hc88 
      have pre21 : ∀ t, Steps p.tables e below (s₁.setTop (mkF m 92 #[.val (.int p1), .val (.int w1), .val (.int w2), .val (.int w3), .val (.int w4)] [(.int w3)])) t → Steps p.tables e below (s₁.setTop (entryFrame m #[(.int p1)] 5)) t := by
        intro t k
        refine pre20 _ ?_
        show Steps p.tables e below (s₁.setTop (mkF m 88 #[.val (.int p1), .val (.int w1), .val (.int w2), .val (.int w3), .val (.int w4)] [(.int w2)])) _
        refine XS.ifNo X0.here hx rfl (hb hby own_d2_88) rfl ((if0 _ _).trans (teq hc88).2) ?_
        show Steps p.tables e below (s₁.setTop (mkF m 91 #[.val (.int p1), .val (.int w1), .val (.int w2), .val (.int w3), .val (.int w4)] [])) _
        refine XS.iloadN X0.here hx rfl (hb hby own_d2_91) rfl ?_
        exact k
      by_cases hc92 : w3 = (0 : Int32)
      · -- hc92 
        have pre22 : ∀ t, Steps p.tables e below (s₁.setTop (mkF m 97 #[.val (.int p1), .val (.int w1), .val (.int w2), .val (.int w3), .val (.int w4)] [(.int w4)])) t → Steps p.tables e below (s₁.setTop (entryFrame m #[(.int p1)] 5)) t := by
          intro t k
          refine pre21 _ ?_
          show Steps p.tables e below (s₁.setTop (mkF m 92 #[.val (.int p1), .val (.int w1), .val (.int w2), .val (.int w3), .val (.int w4)] [(.int w3)])) _
          refine XS.ifNo X0.here hx rfl (hb hby own_d2_92) rfl ((if0 _ _).trans (teq hc92).2) ?_
          show Steps p.tables e below (s₁.setTop (mkF m 95 #[.val (.int p1), .val (.int w1), .val (.int w2), .val (.int w3), .val (.int w4)] [])) _
          refine XS.iload X0.here hx rfl (hb hby own_d2_95) rfl ?_
          exact k
        by_cases hc97 : w4 = (0 : Int32)
        · -- hc97 
          have pre23 : ∀ t, Steps p.tables e below (s₁.setTop (mkF m 105 #[.val (.int p1), .val (.int w1), .val (.int w2), .val (.int w3), .val (.int w4)] [(.int (1 : Int32))])) t → Steps p.tables e below (s₁.setTop (entryFrame m #[(.int p1)] 5)) t := by
            intro t k
            refine pre22 _ ?_
            show Steps p.tables e below (s₁.setTop (mkF m 97 #[.val (.int p1), .val (.int w1), .val (.int w2), .val (.int w3), .val (.int w4)] [(.int w4)])) _
            refine XS.ifNo X0.here hx rfl (hb hby own_d2_97) rfl ((if0 _ _).trans (teq hc97).2) ?_
            show Steps p.tables e below (s₁.setTop (mkF m 100 #[.val (.int p1), .val (.int w1), .val (.int w2), .val (.int w3), .val (.int w4)] [])) _
            refine XS.iconst X0.here hx rfl (hb hby own_d2_100) ?_
            show Steps p.tables e below (s₁.setTop (mkF m 101 #[.val (.int p1), .val (.int w1), .val (.int w2), .val (.int w3), .val (.int w4)] [(.int (1 : Int32))])) _
            refine XS.goto X0.here hx rfl (pc0 := 101) (pc' := 105) rfl (hb hby own_d2_101) (by decide) (by decide) ?_
            exact k
          obtain ⟨fs, hr, hrun, hended, hW, hsame⟩ := X0.leave (v := some (.int (1 : Int32))) (fun h => by rw [Bd.returns] at h; cases h)
          refine ⟨_, _, pre23 _ ?_, hrun, hended, _, _, rfl, ?_, ⟨_, rfl⟩, hW, hsame.mono (by decide) (by decide)⟩
          · show Steps p.tables e below (s₁.setTop (mkF m 105 #[.val (.int p1), .val (.int w1), .val (.int w2), .val (.int w3), .val (.int w4)] [(.int (1 : Int32))])) _
            exact retN X0 hx (t := .boolean) Bd.returns (by simp) (hb hby own_d2_105) hr
          · show own_Q2 Z p1 h0 n0 _ s₁.heap _
            rw [e0]
            exact ⟨congrArg (fun z => some (Value.int z)) (show (1 : Int32) = (own_P p1) from own_P1 (by rw [hw1] at hc84; rw [hw2] at hc88; rw [hw3] at hc92; rw [hw4] at hc97; omega)), N0, rfl⟩
        · -- hc97 not
          have pre24 : ∀ t, Steps p.tables e below (s₁.setTop (mkF m 105 #[.val (.int p1), .val (.int w1), .val (.int w2), .val (.int w3), .val (.int w4)] [(.int (0 : Int32))])) t → Steps p.tables e below (s₁.setTop (entryFrame m #[(.int p1)] 5)) t := by
            intro t k
            refine pre22 _ ?_
            show Steps p.tables e below (s₁.setTop (mkF m 97 #[.val (.int p1), .val (.int w1), .val (.int w2), .val (.int w3), .val (.int w4)] [(.int w4)])) _
            refine XS.ifYes X0.here hx rfl (pc0 := 97) (pc' := 104) rfl (hb hby own_d2_97) rfl ((if0 _ _).trans (feq hc97).2) (by decide) (by decide) ?_
            show Steps p.tables e below (s₁.setTop (mkF m 104 #[.val (.int p1), .val (.int w1), .val (.int w2), .val (.int w3), .val (.int w4)] [])) _
            refine XS.iconst X0.here hx rfl (hb hby own_d2_104) ?_
            exact k
          obtain ⟨fs, hr, hrun, hended, hW, hsame⟩ := X0.leave (v := some (.int (0 : Int32))) (fun h => by rw [Bd.returns] at h; cases h)
          refine ⟨_, _, pre24 _ ?_, hrun, hended, _, _, rfl, ?_, ⟨_, rfl⟩, hW, hsame.mono (by decide) (by decide)⟩
          · show Steps p.tables e below (s₁.setTop (mkF m 105 #[.val (.int p1), .val (.int w1), .val (.int w2), .val (.int w3), .val (.int w4)] [(.int (0 : Int32))])) _
            exact retN X0 hx (t := .boolean) Bd.returns (by simp) (hb hby own_d2_105) hr
          · show own_Q2 Z p1 h0 n0 _ s₁.heap _
            rw [e0]
            exact ⟨congrArg (fun z => some (Value.int z)) (show (0 : Int32) = (own_P p1) from own_P0 (by rw [hw1] at hc84; rw [hw2] at hc88; rw [hw3] at hc92; rw [hw4] at hc97; omega)), N0, rfl⟩
      · -- hc92 not
        have pre25 : ∀ t, Steps p.tables e below (s₁.setTop (mkF m 105 #[.val (.int p1), .val (.int w1), .val (.int w2), .val (.int w3), .val (.int w4)] [(.int (0 : Int32))])) t → Steps p.tables e below (s₁.setTop (entryFrame m #[(.int p1)] 5)) t := by
          intro t k
          refine pre21 _ ?_
          show Steps p.tables e below (s₁.setTop (mkF m 92 #[.val (.int p1), .val (.int w1), .val (.int w2), .val (.int w3), .val (.int w4)] [(.int w3)])) _
          refine XS.ifYes X0.here hx rfl (pc0 := 92) (pc' := 104) rfl (hb hby own_d2_92) rfl ((if0 _ _).trans (feq hc92).2) (by decide) (by decide) ?_
          show Steps p.tables e below (s₁.setTop (mkF m 104 #[.val (.int p1), .val (.int w1), .val (.int w2), .val (.int w3), .val (.int w4)] [])) _
          refine XS.iconst X0.here hx rfl (hb hby own_d2_104) ?_
          exact k
        obtain ⟨fs, hr, hrun, hended, hW, hsame⟩ := X0.leave (v := some (.int (0 : Int32))) (fun h => by rw [Bd.returns] at h; cases h)
        refine ⟨_, _, pre25 _ ?_, hrun, hended, _, _, rfl, ?_, ⟨_, rfl⟩, hW, hsame.mono (by decide) (by decide)⟩
        · show Steps p.tables e below (s₁.setTop (mkF m 105 #[.val (.int p1), .val (.int w1), .val (.int w2), .val (.int w3), .val (.int w4)] [(.int (0 : Int32))])) _
          exact retN X0 hx (t := .boolean) Bd.returns (by simp) (hb hby own_d2_105) hr
        · show own_Q2 Z p1 h0 n0 _ s₁.heap _
          rw [e0]
          exact ⟨congrArg (fun z => some (Value.int z)) (show (0 : Int32) = (own_P p1) from own_P0 (by rw [hw1] at hc84; rw [hw2] at hc88; rw [hw3] at hc92; omega)), N0, rfl⟩
    · -- hc88 not
      have pre26 : ∀ t, Steps p.tables e below (s₁.setTop (mkF m 105 #[.val (.int p1), .val (.int w1), .val (.int w2), .val (.int w3), .val (.int w4)] [(.int (0 : Int32))])) t → Steps p.tables e below (s₁.setTop (entryFrame m #[(.int p1)] 5)) t := by
        intro t k
        refine pre20 _ ?_
        show Steps p.tables e below (s₁.setTop (mkF m 88 #[.val (.int p1), .val (.int w1), .val (.int w2), .val (.int w3), .val (.int w4)] [(.int w2)])) _
        refine XS.ifYes X0.here hx rfl (pc0 := 88) (pc' := 104) rfl (hb hby own_d2_88) rfl ((if0 _ _).trans (feq hc88).2) (by decide) (by decide) ?_
        show Steps p.tables e below (s₁.setTop (mkF m 104 #[.val (.int p1), .val (.int w1), .val (.int w2), .val (.int w3), .val (.int w4)] [])) _
        refine XS.iconst X0.here hx rfl (hb hby own_d2_104) ?_
        exact k
      obtain ⟨fs, hr, hrun, hended, hW, hsame⟩ := X0.leave (v := some (.int (0 : Int32))) (fun h => by rw [Bd.returns] at h; cases h)
      refine ⟨_, _, pre26 _ ?_, hrun, hended, _, _, rfl, ?_, ⟨_, rfl⟩, hW, hsame.mono (by decide) (by decide)⟩
      · show Steps p.tables e below (s₁.setTop (mkF m 105 #[.val (.int p1), .val (.int w1), .val (.int w2), .val (.int w3), .val (.int w4)] [(.int (0 : Int32))])) _
        exact retN X0 hx (t := .boolean) Bd.returns (by simp) (hb hby own_d2_105) hr
      · show own_Q2 Z p1 h0 n0 _ s₁.heap _
        rw [e0]
        exact ⟨congrArg (fun z => some (Value.int z)) (show (0 : Int32) = (own_P p1) from own_P0 (by rw [hw1] at hc84; rw [hw2] at hc88; omega)), N0, rfl⟩
theorem own_ef0 (m : MethodId) (x0 : Int32) (x1 : Int32) : entryFrame m #[(.int x0), (.int x1)] maxLocals = mkF m 0 #[.val (.int x0), .val (.int x1), .unset, .unset, .unset] [] := by first | (simp [entryFrame, mkF, argsToLocals, Value.category, maxLocals]; done) | rfl
def own_Q0 (Z : State) (p1 : Int32) (p2 : Int32) (h0 : Heap) (n0 : Nat) (v : Option Value) (h : Heap) (L : List Loc) : Prop := v = some (.int (1 : Int32)) ∧ Fr n0 L
set_option maxRecDepth 65536 in
set_option maxHeartbeats 40000000 in
theorem rm0 (l : Launch) (Z : State) (a0 : Array Value) (hw : ∀ d ∈ tables_1, d.before a0 Z = true) (ws : List Jvm.Cond) (p1 : Int32) (p2 : Int32) (h0 : Heap) (n0 : Nat) (Z0 : n0 ≤ h0.size)  :
    MetFree l x (head1 (Jvm.Cond.code x code maxLocals ret :: ws) room_1) (fun a U => a = #[(.int p1), (.int p2)] ∧ Z.Warmed39 U.vm ∧ U.heap = h0) (fun _ _ _ _ _ => True) (fun _ U o U' => ∃ v L, o = .returned v ∧ own_Q0 Z p1 p2 h0 n0 v U'.heap L ∧ FrameEnd U o U' L room_1.cells room_1.slots) := by
  refine MetFree.of_bodySF (plainFor_of_name own_pn0) hisR ?_
  intro p e s m args below meth c s₁ Bd hml0 hP hK
  obtain ⟨rfl, hZ, hh⟩ := hP
  have hx := Bd.exec
  have hby := Bd.bytes
  have hml : c.maxLocals = 5 := hml0
  have hown : s.vm.findClass "com/example/kennet/kennet/xdm/CharactersIsPermittedPinLaw" = some m.cls := findClass_of_methodNamed Bd.named
  have hnm := (name_of_methodNamed Bd.named Bd.method).1
  have X0 : Stand p l e room_1 s m #[(.int p1), (.int p2)] below meth c s₁ [] 0 0 := Stand.of_body Bd
  have e0 : s₁.heap = h0 := by rw [← hh, Bd.state]; rfl
  have N0 := Fr.nil n0
  have pre0 : ∀ t, Steps p.tables e below (s₁.setTop (mkF m 0 #[.val (.int p1), .val (.int p2), .unset, .unset, .unset] [])) t → Steps p.tables e below (s₁.setTop (entryFrame m #[(.int p1), (.int p2)] maxLocals)) t := fun t k => castTop (own_ef0 m p1 p2) k
  have pre1 : ∀ t, Steps p.tables e below (s₁.setTop (mkF m 3 #[.val (.int p1), .val (.int p2), .unset, .unset, .unset] [(.int (p2 &&& (1 : Int32)))])) t → Steps p.tables e below (s₁.setTop (entryFrame m #[(.int p1), (.int p2)] maxLocals)) t := by
    intro t k
    refine pre0 _ ?_
    show Steps p.tables e below (s₁.setTop (mkF m 0 #[.val (.int p1), .val (.int p2), .unset, .unset, .unset] [])) _
    refine XS.iloadN X0.here hx rfl (hb hby at_0) rfl ?_
    show Steps p.tables e below (s₁.setTop (mkF m 1 #[.val (.int p1), .val (.int p2), .unset, .unset, .unset] [(.int p2)])) _
    refine XS.iconst X0.here hx rfl (hb hby at_1) ?_
    show Steps p.tables e below (s₁.setTop (mkF m 2 #[.val (.int p1), .val (.int p2), .unset, .unset, .unset] [(.int (1 : Int32)), (.int p2)])) _
    refine XS.iand X0.here hx rfl (hb hby at_2) rfl ?_
    exact k
  by_cases hc3 : (p2 &&& (1 : Int32)) = (0 : Int32)
  · -- hc3 
    obtain ⟨_, _, ⟨T2, L2, k2, n2⟩, -, X2, ⟨Lc2, hQ2, l2, y2, z2⟩, st2⟩ := Jvm.LawKit.callS X0 hx (y := (⟨"com/example/kennet/kennet/xdm/Characters", "isPermitted", "(I)Z"⟩ : MethodName)) hown (mvT hZ (hw _ (List.mem_of_getElem? (i := 6) rfl))) (mvT hZ (hw _ (List.mem_of_getElem? (i := 7) rfl))) (mvT hZ (hw _ (List.mem_of_getElem? (i := 8) rfl))) (mvT hZ (hw _ (List.mem_of_getElem? (i := 9) rfl))) (by decide) (backOf (W := 0) (rm1 l Z a0 hw [] p1  h0 n0 Z0 ) hZ (hw _ (List.mem_of_getElem? (i := 9) rfl)) (hw _ (List.mem_of_getElem? (i := 8) rfl)) (by decide) (by decide)) (g := (mkF m 92 #[.val (.int p1), .val (.int p2), .val (.int p1), .unset, .unset] [(.int p1)])) rfl (by rw [hml]; rfl) (argsL := [(.int p1)]) (rest := []) (lenOf own_pd0 rfl) rfl (by show 2 * 0 + _ ≤ _; exact Nat.le_of_eq rfl) (hb hby at_92) (fun _ _ => ⟨rfl, e0, (by decide : 0 + 0 ≤ _), (by decide : 0 + 0 ≤ _)⟩)
    dsimp only [Pt.U, Pt.locs, Pt.cells, Pt.slots] at X2 l2 y2 z2 st2 hQ2
    subst l2 y2 z2
    obtain ⟨rfl, N2q, e2⟩ := hQ2
    have N2 := Fr.app N0 N2q
    obtain ⟨_, _, ⟨T3, L3, k3, n3⟩, -, X3, ⟨Lc3, hQ3, l3, y3, z3⟩, st3⟩ := Jvm.LawKit.callS X2 hx (y := (⟨"com/example/kennet/kennet/xdm/CharactersIsPermittedPinLaw", "expected", "(I)Z"⟩ : MethodName)) hown (mvT hZ (hw _ (List.mem_of_getElem? (i := 12) rfl))) (mvT hZ (hw _ (List.mem_of_getElem? (i := 13) rfl))) (mvT hZ (hw _ (List.mem_of_getElem? (i := 14) rfl))) (mvT hZ (hw _ (List.mem_of_getElem? (i := 15) rfl))) (by decide) (backOf (W := 1) (rm2 l Z a0 hw [] p1  h0 n0 Z0 ) hZ (hw _ (List.mem_of_getElem? (i := 15) rfl)) (hw _ (List.mem_of_getElem? (i := 14) rfl)) (by decide) (by decide)) (g := (mkF m 96 #[.val (.int p1), .val (.int p2), .val (.int p1), .unset, .unset] [(.int p1), (.int (own_P p1))])) rfl (by rw [hml]; rfl) (argsL := [(.int p1)]) (rest := [(.int (own_P p1))]) (lenOf own_pd0 rfl) rfl (by show 2 * 0 + _ ≤ _; exact Nat.le_of_eq rfl) (hb hby at_96) (fun _ _ => ⟨rfl, e2, (by decide : 0 + 0 ≤ _), (by decide : 0 + 0 ≤ _)⟩)
    dsimp only [Pt.U, Pt.locs, Pt.cells, Pt.slots] at X3 l3 y3 z3 st3 hQ3
    subst l3 y3 z3
    obtain ⟨rfl, N3q, e3⟩ := hQ3
    have N3 := Fr.app N2 N3q
    have pre4 : ∀ t, Steps p.tables e below (T3.setTop (mkF m 107 #[.val (.int p1), .val (.int p2), .val (.int p1), .unset, .unset] [(.int (1 : Int32))])) t → Steps p.tables e below (s₁.setTop (entryFrame m #[(.int p1), (.int p2)] maxLocals)) t := by
      intro t k
      refine pre1 _ ?_
      show Steps p.tables e below (s₁.setTop (mkF m 3 #[.val (.int p1), .val (.int p2), .unset, .unset, .unset] [(.int (p2 &&& (1 : Int32)))])) _
      refine XS.ifNo X0.here hx rfl (hb hby at_3) rfl ((if0 _ _).trans (teq hc3).2) ?_
      show Steps p.tables e below (s₁.setTop (mkF m 6 #[.val (.int p1), .val (.int p2), .unset, .unset, .unset] [])) _
      refine XS.iloadN X0.here hx rfl (hb hby at_6) rfl ?_
      show Steps p.tables e below (s₁.setTop (mkF m 7 #[.val (.int p1), .val (.int p2), .unset, .unset, .unset] [(.int p1)])) _
      refine XS.istoreN X0.here hx rfl (hb hby at_7) rfl (l' := #[.val (.int p1), .val (.int p2), .val (.int p1), .unset, .unset]) rfl ?_
      show Steps p.tables e below (s₁.setTop (mkF m 8 #[.val (.int p1), .val (.int p2), .val (.int p1), .unset, .unset] [])) _
      refine XS.goto X0.here hx rfl (pc0 := 8) (pc' := 91) rfl (hb hby at_8) (by decide) (by decide) ?_
      show Steps p.tables e below (s₁.setTop (mkF m 91 #[.val (.int p1), .val (.int p2), .val (.int p1), .unset, .unset] [])) _
      refine XS.iloadN X0.here hx rfl (hb hby at_91) rfl ?_
      show Steps p.tables e below (s₁.setTop (mkF m 92 #[.val (.int p1), .val (.int p2), .val (.int p1), .unset, .unset] [(.int p1)])) _
      refine st2 _ ?_
      show Steps p.tables e below (T2.setTop (mkF m 95 #[.val (.int p1), .val (.int p2), .val (.int p1), .unset, .unset] [(.int (own_P p1))])) _
      refine XS.iloadN X2.here hx rfl (hb hby at_95) rfl ?_
      show Steps p.tables e below (T2.setTop (mkF m 96 #[.val (.int p1), .val (.int p2), .val (.int p1), .unset, .unset] [(.int p1), (.int (own_P p1))])) _
      refine st3 _ ?_
      show Steps p.tables e below (T3.setTop (mkF m 99 #[.val (.int p1), .val (.int p2), .val (.int p1), .unset, .unset] [(.int (own_P p1)), (.int (own_P p1))])) _
      refine XS.icmpNo X3.here hx rfl (hb hby at_99) rfl (teq (rfl : (own_P p1) = (own_P p1))).2 ?_
      show Steps p.tables e below (T3.setTop (mkF m 102 #[.val (.int p1), .val (.int p2), .val (.int p1), .unset, .unset] [])) _
      refine XS.iconst X3.here hx rfl (hb hby at_102) ?_
      show Steps p.tables e below (T3.setTop (mkF m 103 #[.val (.int p1), .val (.int p2), .val (.int p1), .unset, .unset] [(.int (1 : Int32))])) _
      refine XS.goto X3.here hx rfl (pc0 := 103) (pc' := 107) rfl (hb hby at_103) (by decide) (by decide) ?_
      exact k
    obtain ⟨fs, hr, hrun, hended, hW, hsame⟩ := X3.leave (v := some (.int (1 : Int32))) (fun h => by rw [Bd.returns] at h; cases h)
    refine ⟨_, _, pre4 _ ?_, hrun, hended, _, _, rfl, ?_, ⟨_, rfl⟩, hW, hsame.mono (by decide) (by decide)⟩
    · show Steps p.tables e below (T3.setTop (mkF m 107 #[.val (.int p1), .val (.int p2), .val (.int p1), .unset, .unset] [(.int (1 : Int32))])) _
      exact retN X3 hx (t := .boolean) Bd.returns (by simp) (hb hby at_107) hr
    · show own_Q0 Z p1 p2 h0 n0 _ T3.heap _
      rw [e3]
      exact ⟨rfl, N3⟩
  · -- hc3 not
    obtain ⟨T5, h5, k5, X5, e5, E5, A5, st5⟩ := newP X0 hx hZ (hw _ (List.mem_of_getElem? (i := 0) rfl)) e0 (g := (mkF m 13 #[.val (.int p1), .val (.int p2), .unset, .unset, .unset] [(.int (10 : Int32))])) rfl (hb hby at_13) rfl (by decide) (cap := 10) (by decide) (by decide) (by decide) (by decide)
    obtain ⟨b5, g5⟩ : ∃ z, z = h0.size := ⟨_, rfl⟩
    rw [← g5] at A5 st5
    have g_b5 : n0 ≤ b5 := Nat.le_trans Z0 (Nat.le_of_eq g5.symm)
    have Z5 : n0 ≤ h5.size := Nat.le_trans Z0 E5.1
    have V_b5 : Arv Z h5 b5 k5 .int (10 : Int32) [(.int (0 : Int32)), (.int (0 : Int32)), (.int (0 : Int32)), (.int (0 : Int32)), (.int (0 : Int32)), (.int (0 : Int32)), (.int (0 : Int32)), (.int (0 : Int32)), (.int (0 : Int32)), (.int (0 : Int32))] (.int (0 : Int32)) := (Arv.new A5 (by decide)).pad (pad_rep [] (.int (0 : Int32)) 10)
    obtain ⟨cl_b5, Ar_b5, q_b5, S_b5, N_b5, H_b5, G_b5⟩ := V_b5
    have hin18 : ¬ ((0 : Int32) < 0 ∨ cl_b5.slots.size ≤ ((0 : Int32)).toNatClampNeg) := inb_of S_b5 ⟨by decide, by decide⟩
    obtain ⟨T6, h6, X6, e6, W6, st6⟩ := stI X5 hx hZ e5 Ar_b5 (j := (0 : Int32)) hin18 (g := (mkF m 18 #[.val (.int p1), .val (.int p2), .unset, .unset, .unset] [(.int (0 : Int32)), (.int (0 : Int32)), (.ref b5), (.ref b5)])) rfl rfl (hb hby at_18)
    have Z6 : n0 ≤ h6.size := Nat.le_trans Z5 (Keep.of_wr W6).1
    have N6 := Fr.snoc X6 N0 g_b5
    have V_b5 : Arv Z h6 b5 k5 .int (10 : Int32) [(.int (0 : Int32)), (.int (0 : Int32)), (.int (0 : Int32)), (.int (0 : Int32)), (.int (0 : Int32)), (.int (0 : Int32)), (.int (0 : Int32)), (.int (0 : Int32)), (.int (0 : Int32)), (.int (0 : Int32))] (.int (0 : Int32)) := Arv.set Ar_b5 q_b5 S_b5 N_b5 H_b5 G_b5 rfl W6 0 rfl (Nat.le_of_ble_eq_true rfl)
    obtain ⟨cl_b5, Ar_b5, q_b5, S_b5, N_b5, H_b5, G_b5⟩ := V_b5
    have hin23 : ¬ ((1 : Int32) < 0 ∨ cl_b5.slots.size ≤ ((1 : Int32)).toNatClampNeg) := inb_of S_b5 ⟨by decide, by decide⟩
    obtain ⟨T7, h7, X7, e7, W7, st7⟩ := stI X6 hx hZ e6 Ar_b5 (j := (1 : Int32)) hin23 (g := (mkF m 23 #[.val (.int p1), .val (.int p2), .unset, .unset, .unset] [(.int (9 : Int32)), (.int (1 : Int32)), (.ref b5), (.ref b5)])) rfl rfl (hb hby at_23)
    have Z7 : n0 ≤ h7.size := Nat.le_trans Z6 (Keep.of_wr W7).1
    have N7 := Fr.snoc X7 N6 g_b5
    have V_b5 : Arv Z h7 b5 k5 .int (10 : Int32) [(.int (0 : Int32)), (.int (9 : Int32)), (.int (0 : Int32)), (.int (0 : Int32)), (.int (0 : Int32)), (.int (0 : Int32)), (.int (0 : Int32)), (.int (0 : Int32)), (.int (0 : Int32)), (.int (0 : Int32))] (.int (0 : Int32)) := Arv.set Ar_b5 q_b5 S_b5 N_b5 H_b5 G_b5 rfl W7 1 rfl (Nat.le_of_ble_eq_true rfl)
    obtain ⟨cl_b5, Ar_b5, q_b5, S_b5, N_b5, H_b5, G_b5⟩ := V_b5
    have hin28 : ¬ ((2 : Int32) < 0 ∨ cl_b5.slots.size ≤ ((2 : Int32)).toNatClampNeg) := inb_of S_b5 ⟨by decide, by decide⟩
    obtain ⟨T8, h8, X8, e8, W8, st8⟩ := stI X7 hx hZ e7 Ar_b5 (j := (2 : Int32)) hin28 (g := (mkF m 28 #[.val (.int p1), .val (.int p2), .unset, .unset, .unset] [(.int (10 : Int32)), (.int (2 : Int32)), (.ref b5), (.ref b5)])) rfl rfl (hb hby at_28)
    have Z8 : n0 ≤ h8.size := Nat.le_trans Z7 (Keep.of_wr W8).1
    have N8 := Fr.snoc X8 N7 g_b5
    have V_b5 : Arv Z h8 b5 k5 .int (10 : Int32) [(.int (0 : Int32)), (.int (9 : Int32)), (.int (10 : Int32)), (.int (0 : Int32)), (.int (0 : Int32)), (.int (0 : Int32)), (.int (0 : Int32)), (.int (0 : Int32)), (.int (0 : Int32)), (.int (0 : Int32))] (.int (0 : Int32)) := Arv.set Ar_b5 q_b5 S_b5 N_b5 H_b5 G_b5 rfl W8 2 rfl (Nat.le_of_ble_eq_true rfl)
    obtain ⟨cl_b5, Ar_b5, q_b5, S_b5, N_b5, H_b5, G_b5⟩ := V_b5
    have hin33 : ¬ ((3 : Int32) < 0 ∨ cl_b5.slots.size ≤ ((3 : Int32)).toNatClampNeg) := inb_of S_b5 ⟨by decide, by decide⟩
    obtain ⟨T9, h9, X9, e9, W9, st9⟩ := stI X8 hx hZ e8 Ar_b5 (j := (3 : Int32)) hin33 (g := (mkF m 33 #[.val (.int p1), .val (.int p2), .unset, .unset, .unset] [(.int (13 : Int32)), (.int (3 : Int32)), (.ref b5), (.ref b5)])) rfl rfl (hb hby at_33)
    have Z9 : n0 ≤ h9.size := Nat.le_trans Z8 (Keep.of_wr W9).1
    have N9 := Fr.snoc X9 N8 g_b5
    have V_b5 : Arv Z h9 b5 k5 .int (10 : Int32) [(.int (0 : Int32)), (.int (9 : Int32)), (.int (10 : Int32)), (.int (13 : Int32)), (.int (0 : Int32)), (.int (0 : Int32)), (.int (0 : Int32)), (.int (0 : Int32)), (.int (0 : Int32)), (.int (0 : Int32))] (.int (0 : Int32)) := Arv.set Ar_b5 q_b5 S_b5 N_b5 H_b5 G_b5 rfl W9 3 rfl (Nat.le_of_ble_eq_true rfl)
    obtain ⟨cl_b5, Ar_b5, q_b5, S_b5, N_b5, H_b5, G_b5⟩ := V_b5
    have hin38 : ¬ ((4 : Int32) < 0 ∨ cl_b5.slots.size ≤ ((4 : Int32)).toNatClampNeg) := inb_of S_b5 ⟨by decide, by decide⟩
    obtain ⟨T10, h10, X10, e10, W10, st10⟩ := stI X9 hx hZ e9 Ar_b5 (j := (4 : Int32)) hin38 (g := (mkF m 38 #[.val (.int p1), .val (.int p2), .unset, .unset, .unset] [(.int (32 : Int32)), (.int (4 : Int32)), (.ref b5), (.ref b5)])) rfl rfl (hb hby at_38)
    have Z10 : n0 ≤ h10.size := Nat.le_trans Z9 (Keep.of_wr W10).1
    have N10 := Fr.snoc X10 N9 g_b5
    have V_b5 : Arv Z h10 b5 k5 .int (10 : Int32) [(.int (0 : Int32)), (.int (9 : Int32)), (.int (10 : Int32)), (.int (13 : Int32)), (.int (32 : Int32)), (.int (0 : Int32)), (.int (0 : Int32)), (.int (0 : Int32)), (.int (0 : Int32)), (.int (0 : Int32))] (.int (0 : Int32)) := Arv.set Ar_b5 q_b5 S_b5 N_b5 H_b5 G_b5 rfl W10 4 rfl (Nat.le_of_ble_eq_true rfl)
    obtain ⟨cl_b5, Ar_b5, q_b5, S_b5, N_b5, H_b5, G_b5⟩ := V_b5
    have hin43 : ¬ ((5 : Int32) < 0 ∨ cl_b5.slots.size ≤ ((5 : Int32)).toNatClampNeg) := inb_of S_b5 ⟨by decide, by decide⟩
    obtain ⟨T11, h11, X11, e11, W11, st11⟩ := stI X10 hx hZ e10 Ar_b5 (j := (5 : Int32)) hin43 (g := (mkF m 43 #[.val (.int p1), .val (.int p2), .unset, .unset, .unset] [(.int (55295 : Int32)), (.int (5 : Int32)), (.ref b5), (.ref b5)])) rfl rfl (hb hby at_43)
    have Z11 : n0 ≤ h11.size := Nat.le_trans Z10 (Keep.of_wr W11).1
    have N11 := Fr.snoc X11 N10 g_b5
    have V_b5 : Arv Z h11 b5 k5 .int (10 : Int32) [(.int (0 : Int32)), (.int (9 : Int32)), (.int (10 : Int32)), (.int (13 : Int32)), (.int (32 : Int32)), (.int (55295 : Int32)), (.int (0 : Int32)), (.int (0 : Int32)), (.int (0 : Int32)), (.int (0 : Int32))] (.int (0 : Int32)) := Arv.set Ar_b5 q_b5 S_b5 N_b5 H_b5 G_b5 rfl W11 5 rfl (Nat.le_of_ble_eq_true rfl)
    obtain ⟨cl_b5, Ar_b5, q_b5, S_b5, N_b5, H_b5, G_b5⟩ := V_b5
    have hin49 : ¬ ((6 : Int32) < 0 ∨ cl_b5.slots.size ≤ ((6 : Int32)).toNatClampNeg) := inb_of S_b5 ⟨by decide, by decide⟩
    obtain ⟨T12, h12, X12, e12, W12, st12⟩ := stI X11 hx hZ e11 Ar_b5 (j := (6 : Int32)) hin49 (g := (mkF m 49 #[.val (.int p1), .val (.int p2), .unset, .unset, .unset] [(.int (57344 : Int32)), (.int (6 : Int32)), (.ref b5), (.ref b5)])) rfl rfl (hb hby at_49)
    have Z12 : n0 ≤ h12.size := Nat.le_trans Z11 (Keep.of_wr W12).1
    have N12 := Fr.snoc X12 N11 g_b5
    have V_b5 : Arv Z h12 b5 k5 .int (10 : Int32) [(.int (0 : Int32)), (.int (9 : Int32)), (.int (10 : Int32)), (.int (13 : Int32)), (.int (32 : Int32)), (.int (55295 : Int32)), (.int (57344 : Int32)), (.int (0 : Int32)), (.int (0 : Int32)), (.int (0 : Int32))] (.int (0 : Int32)) := Arv.set Ar_b5 q_b5 S_b5 N_b5 H_b5 G_b5 rfl W12 6 rfl (Nat.le_of_ble_eq_true rfl)
    obtain ⟨cl_b5, Ar_b5, q_b5, S_b5, N_b5, H_b5, G_b5⟩ := V_b5
    have hin55 : ¬ ((7 : Int32) < 0 ∨ cl_b5.slots.size ≤ ((7 : Int32)).toNatClampNeg) := inb_of S_b5 ⟨by decide, by decide⟩
    obtain ⟨T13, h13, X13, e13, W13, st13⟩ := stI X12 hx hZ e12 Ar_b5 (j := (7 : Int32)) hin55 (g := (mkF m 55 #[.val (.int p1), .val (.int p2), .unset, .unset, .unset] [(.int (65533 : Int32)), (.int (7 : Int32)), (.ref b5), (.ref b5)])) rfl rfl (hb hby at_55)
    have Z13 : n0 ≤ h13.size := Nat.le_trans Z12 (Keep.of_wr W13).1
    have N13 := Fr.snoc X13 N12 g_b5
    have V_b5 : Arv Z h13 b5 k5 .int (10 : Int32) [(.int (0 : Int32)), (.int (9 : Int32)), (.int (10 : Int32)), (.int (13 : Int32)), (.int (32 : Int32)), (.int (55295 : Int32)), (.int (57344 : Int32)), (.int (65533 : Int32)), (.int (0 : Int32)), (.int (0 : Int32))] (.int (0 : Int32)) := Arv.set Ar_b5 q_b5 S_b5 N_b5 H_b5 G_b5 rfl W13 7 rfl (Nat.le_of_ble_eq_true rfl)
    obtain ⟨cl_b5, Ar_b5, q_b5, S_b5, N_b5, H_b5, G_b5⟩ := V_b5
    have hin61 : ¬ ((8 : Int32) < 0 ∨ cl_b5.slots.size ≤ ((8 : Int32)).toNatClampNeg) := inb_of S_b5 ⟨by decide, by decide⟩
    obtain ⟨T14, h14, X14, e14, W14, st14⟩ := stI X13 hx hZ e13 Ar_b5 (j := (8 : Int32)) hin61 (g := (mkF m 61 #[.val (.int p1), .val (.int p2), .unset, .unset, .unset] [(.int (65536 : Int32)), (.int (8 : Int32)), (.ref b5), (.ref b5)])) rfl rfl (hb hby at_61)
    have Z14 : n0 ≤ h14.size := Nat.le_trans Z13 (Keep.of_wr W14).1
    have N14 := Fr.snoc X14 N13 g_b5
    have V_b5 : Arv Z h14 b5 k5 .int (10 : Int32) [(.int (0 : Int32)), (.int (9 : Int32)), (.int (10 : Int32)), (.int (13 : Int32)), (.int (32 : Int32)), (.int (55295 : Int32)), (.int (57344 : Int32)), (.int (65533 : Int32)), (.int (65536 : Int32)), (.int (0 : Int32))] (.int (0 : Int32)) := Arv.set Ar_b5 q_b5 S_b5 N_b5 H_b5 G_b5 rfl W14 8 rfl (Nat.le_of_ble_eq_true rfl)
    obtain ⟨cl_b5, Ar_b5, q_b5, S_b5, N_b5, H_b5, G_b5⟩ := V_b5
    have hin67 : ¬ ((9 : Int32) < 0 ∨ cl_b5.slots.size ≤ ((9 : Int32)).toNatClampNeg) := inb_of S_b5 ⟨by decide, by decide⟩
    obtain ⟨T15, h15, X15, e15, W15, st15⟩ := stI X14 hx hZ e14 Ar_b5 (j := (9 : Int32)) hin67 (g := (mkF m 67 #[.val (.int p1), .val (.int p2), .unset, .unset, .unset] [(.int (1114111 : Int32)), (.int (9 : Int32)), (.ref b5), (.ref b5)])) rfl rfl (hb hby at_67)
    have Z15 : n0 ≤ h15.size := Nat.le_trans Z14 (Keep.of_wr W15).1
    have N15 := Fr.snoc X15 N14 g_b5
    have V_b5 : Arv Z h15 b5 k5 .int (10 : Int32) [(.int (0 : Int32)), (.int (9 : Int32)), (.int (10 : Int32)), (.int (13 : Int32)), (.int (32 : Int32)), (.int (55295 : Int32)), (.int (57344 : Int32)), (.int (65533 : Int32)), (.int (65536 : Int32)), (.int (1114111 : Int32))] (.int (0 : Int32)) := Arv.set Ar_b5 q_b5 S_b5 N_b5 H_b5 G_b5 rfl W15 9 rfl (Nat.le_of_ble_eq_true rfl)
    obtain ⟨cl_b5, Ar_b5, q_b5, S_b5, N_b5, H_b5, G_b5⟩ := id V_b5
    have hin83 : ¬ (((((p2.toUInt32 >>> ((1 : Int32) &&& 31).toUInt32).toInt32) &&& (15 : Int32)) % (10 : Int32)) < 0 ∨ cl_b5.slots.size ≤ (((((p2.toUInt32 >>> ((1 : Int32) &&& 31).toUInt32).toInt32) &&& (15 : Int32)) % (10 : Int32))).toNatClampNeg) := inb_of S_b5 (own_in _)
    obtain ⟨w9, hw9⟩ : ∃ w : Int32, ([(.int (0 : Int32)), (.int (9 : Int32)), (.int (10 : Int32)), (.int (13 : Int32)), (.int (32 : Int32)), (.int (55295 : Int32)), (.int (57344 : Int32)), (.int (65533 : Int32)), (.int (65536 : Int32)), (.int (1114111 : Int32))] : List Value).getD (((((p2.toUInt32 >>> ((1 : Int32) &&& 31).toUInt32).toInt32) &&& (15 : Int32)) % (10 : Int32))).toNatClampNeg (.int 0) = .int w := ⟨_, own_getI [(0 : Int32), (9 : Int32), (10 : Int32), (13 : Int32), (32 : Int32), (55295 : Int32), (57344 : Int32), (65533 : Int32), (65536 : Int32), (1114111 : Int32)] _⟩
    have hat83 := Has.at H_b5 hin83 hw9
    obtain ⟨_, _, ⟨T16, L16, k16, n16⟩, -, X16, ⟨Lc16, hQ16, l16, y16, z16⟩, st16⟩ := Jvm.LawKit.callS X15 hx (y := (⟨"com/example/kennet/kennet/xdm/Characters", "isPermitted", "(I)Z"⟩ : MethodName)) hown (mvT hZ (hw _ (List.mem_of_getElem? (i := 6) rfl))) (mvT hZ (hw _ (List.mem_of_getElem? (i := 7) rfl))) (mvT hZ (hw _ (List.mem_of_getElem? (i := 8) rfl))) (mvT hZ (hw _ (List.mem_of_getElem? (i := 9) rfl))) (by decide) (backOf (W := 0) (rm1 l Z a0 hw [] ((w9 + (p1 &&& (3 : Int32))) - (1 : Int32))  h15 n0 Z15 ) hZ (hw _ (List.mem_of_getElem? (i := 9) rfl)) (hw _ (List.mem_of_getElem? (i := 8) rfl)) (by decide) (by decide)) (g := (mkF m 92 #[.val (.int p1), .val (.int p2), .val (.int ((w9 + (p1 &&& (3 : Int32))) - (1 : Int32))), .val (.ref b5), .val (.int ((((p2.toUInt32 >>> ((1 : Int32) &&& 31).toUInt32).toInt32) &&& (15 : Int32)) % (10 : Int32)))] [(.int ((w9 + (p1 &&& (3 : Int32))) - (1 : Int32)))])) rfl (by rw [hml]; rfl) (argsL := [(.int ((w9 + (p1 &&& (3 : Int32))) - (1 : Int32)))]) (rest := []) (lenOf own_pd0 rfl) rfl (by show 2 * 0 + _ ≤ _; exact Nat.le_of_eq rfl) (hb hby at_92) (fun _ _ => ⟨rfl, e15, (by decide : 1 + 0 ≤ _), (by decide : 10 + 0 ≤ _)⟩)
    dsimp only [Pt.U, Pt.locs, Pt.cells, Pt.slots] at X16 l16 y16 z16 st16 hQ16
    subst l16 y16 z16
    obtain ⟨rfl, N16q, e16⟩ := hQ16
    have N16 := Fr.app N15 N16q
    obtain ⟨_, _, ⟨T17, L17, k17, n17⟩, -, X17, ⟨Lc17, hQ17, l17, y17, z17⟩, st17⟩ := Jvm.LawKit.callS X16 hx (y := (⟨"com/example/kennet/kennet/xdm/CharactersIsPermittedPinLaw", "expected", "(I)Z"⟩ : MethodName)) hown (mvT hZ (hw _ (List.mem_of_getElem? (i := 12) rfl))) (mvT hZ (hw _ (List.mem_of_getElem? (i := 13) rfl))) (mvT hZ (hw _ (List.mem_of_getElem? (i := 14) rfl))) (mvT hZ (hw _ (List.mem_of_getElem? (i := 15) rfl))) (by decide) (backOf (W := 1) (rm2 l Z a0 hw [] ((w9 + (p1 &&& (3 : Int32))) - (1 : Int32))  h15 n0 Z15 ) hZ (hw _ (List.mem_of_getElem? (i := 15) rfl)) (hw _ (List.mem_of_getElem? (i := 14) rfl)) (by decide) (by decide)) (g := (mkF m 96 #[.val (.int p1), .val (.int p2), .val (.int ((w9 + (p1 &&& (3 : Int32))) - (1 : Int32))), .val (.ref b5), .val (.int ((((p2.toUInt32 >>> ((1 : Int32) &&& 31).toUInt32).toInt32) &&& (15 : Int32)) % (10 : Int32)))] [(.int ((w9 + (p1 &&& (3 : Int32))) - (1 : Int32))), (.int (own_P ((w9 + (p1 &&& (3 : Int32))) - (1 : Int32))))])) rfl (by rw [hml]; rfl) (argsL := [(.int ((w9 + (p1 &&& (3 : Int32))) - (1 : Int32)))]) (rest := [(.int (own_P ((w9 + (p1 &&& (3 : Int32))) - (1 : Int32))))]) (lenOf own_pd0 rfl) rfl (by show 2 * 0 + _ ≤ _; exact Nat.le_of_eq rfl) (hb hby at_96) (fun _ _ => ⟨rfl, e16, (by decide : 1 + 0 ≤ _), (by decide : 10 + 0 ≤ _)⟩)
    dsimp only [Pt.U, Pt.locs, Pt.cells, Pt.slots] at X17 l17 y17 z17 st17 hQ17
    subst l17 y17 z17
    obtain ⟨rfl, N17q, e17⟩ := hQ17
    have N17 := Fr.app N16 N17q
    have pre18 : ∀ t, Steps p.tables e below (T17.setTop (mkF m 107 #[.val (.int p1), .val (.int p2), .val (.int ((w9 + (p1 &&& (3 : Int32))) - (1 : Int32))), .val (.ref b5), .val (.int ((((p2.toUInt32 >>> ((1 : Int32) &&& 31).toUInt32).toInt32) &&& (15 : Int32)) % (10 : Int32)))] [(.int (1 : Int32))])) t → Steps p.tables e below (s₁.setTop (entryFrame m #[(.int p1), (.int p2)] maxLocals)) t := by
      intro t k
      refine pre1 _ ?_
      show Steps p.tables e below (s₁.setTop (mkF m 3 #[.val (.int p1), .val (.int p2), .unset, .unset, .unset] [(.int (p2 &&& (1 : Int32)))])) _
      refine XS.ifYes X0.here hx rfl (pc0 := 3) (pc' := 11) rfl (hb hby at_3) rfl ((if0 _ _).trans (feq hc3).2) (by decide) (by decide) ?_
      show Steps p.tables e below (s₁.setTop (mkF m 11 #[.val (.int p1), .val (.int p2), .unset, .unset, .unset] [])) _
      refine XS.bipush X0.here hx rfl (hb hby at_11) ?_
      show Steps p.tables e below (s₁.setTop (mkF m 13 #[.val (.int p1), .val (.int p2), .unset, .unset, .unset] [(.int (10 : Int32))])) _
      refine st5 _ ?_
      show Steps p.tables e below (T5.setTop (mkF m 15 #[.val (.int p1), .val (.int p2), .unset, .unset, .unset] [(.ref b5)])) _
      refine XS.dup X5.here hx rfl (hb hby at_15) rfl rfl ?_
      show Steps p.tables e below (T5.setTop (mkF m 16 #[.val (.int p1), .val (.int p2), .unset, .unset, .unset] [(.ref b5), (.ref b5)])) _
      refine XS.iconst X5.here hx rfl (hb hby at_16) ?_
      show Steps p.tables e below (T5.setTop (mkF m 17 #[.val (.int p1), .val (.int p2), .unset, .unset, .unset] [(.int (0 : Int32)), (.ref b5), (.ref b5)])) _
      refine XS.iconst X5.here hx rfl (hb hby at_17) ?_
      show Steps p.tables e below (T5.setTop (mkF m 18 #[.val (.int p1), .val (.int p2), .unset, .unset, .unset] [(.int (0 : Int32)), (.int (0 : Int32)), (.ref b5), (.ref b5)])) _
      refine st6 _ ?_
      show Steps p.tables e below (T6.setTop (mkF m 19 #[.val (.int p1), .val (.int p2), .unset, .unset, .unset] [(.ref b5)])) _
      refine XS.dup X6.here hx rfl (hb hby at_19) rfl rfl ?_
      show Steps p.tables e below (T6.setTop (mkF m 20 #[.val (.int p1), .val (.int p2), .unset, .unset, .unset] [(.ref b5), (.ref b5)])) _
      refine XS.iconst X6.here hx rfl (hb hby at_20) ?_
      show Steps p.tables e below (T6.setTop (mkF m 21 #[.val (.int p1), .val (.int p2), .unset, .unset, .unset] [(.int (1 : Int32)), (.ref b5), (.ref b5)])) _
      refine XS.bipush X6.here hx rfl (hb hby at_21) ?_
      show Steps p.tables e below (T6.setTop (mkF m 23 #[.val (.int p1), .val (.int p2), .unset, .unset, .unset] [(.int (9 : Int32)), (.int (1 : Int32)), (.ref b5), (.ref b5)])) _
      refine st7 _ ?_
      show Steps p.tables e below (T7.setTop (mkF m 24 #[.val (.int p1), .val (.int p2), .unset, .unset, .unset] [(.ref b5)])) _
      refine XS.dup X7.here hx rfl (hb hby at_24) rfl rfl ?_
      show Steps p.tables e below (T7.setTop (mkF m 25 #[.val (.int p1), .val (.int p2), .unset, .unset, .unset] [(.ref b5), (.ref b5)])) _
      refine XS.iconst X7.here hx rfl (hb hby at_25) ?_
      show Steps p.tables e below (T7.setTop (mkF m 26 #[.val (.int p1), .val (.int p2), .unset, .unset, .unset] [(.int (2 : Int32)), (.ref b5), (.ref b5)])) _
      refine XS.bipush X7.here hx rfl (hb hby at_26) ?_
      show Steps p.tables e below (T7.setTop (mkF m 28 #[.val (.int p1), .val (.int p2), .unset, .unset, .unset] [(.int (10 : Int32)), (.int (2 : Int32)), (.ref b5), (.ref b5)])) _
      refine st8 _ ?_
      show Steps p.tables e below (T8.setTop (mkF m 29 #[.val (.int p1), .val (.int p2), .unset, .unset, .unset] [(.ref b5)])) _
      refine XS.dup X8.here hx rfl (hb hby at_29) rfl rfl ?_
      show Steps p.tables e below (T8.setTop (mkF m 30 #[.val (.int p1), .val (.int p2), .unset, .unset, .unset] [(.ref b5), (.ref b5)])) _
      refine XS.iconst X8.here hx rfl (hb hby at_30) ?_
      show Steps p.tables e below (T8.setTop (mkF m 31 #[.val (.int p1), .val (.int p2), .unset, .unset, .unset] [(.int (3 : Int32)), (.ref b5), (.ref b5)])) _
      refine XS.bipush X8.here hx rfl (hb hby at_31) ?_
      show Steps p.tables e below (T8.setTop (mkF m 33 #[.val (.int p1), .val (.int p2), .unset, .unset, .unset] [(.int (13 : Int32)), (.int (3 : Int32)), (.ref b5), (.ref b5)])) _
      refine st9 _ ?_
      show Steps p.tables e below (T9.setTop (mkF m 34 #[.val (.int p1), .val (.int p2), .unset, .unset, .unset] [(.ref b5)])) _
      refine XS.dup X9.here hx rfl (hb hby at_34) rfl rfl ?_
      show Steps p.tables e below (T9.setTop (mkF m 35 #[.val (.int p1), .val (.int p2), .unset, .unset, .unset] [(.ref b5), (.ref b5)])) _
      refine XS.iconst X9.here hx rfl (hb hby at_35) ?_
      show Steps p.tables e below (T9.setTop (mkF m 36 #[.val (.int p1), .val (.int p2), .unset, .unset, .unset] [(.int (4 : Int32)), (.ref b5), (.ref b5)])) _
      refine XS.bipush X9.here hx rfl (hb hby at_36) ?_
      show Steps p.tables e below (T9.setTop (mkF m 38 #[.val (.int p1), .val (.int p2), .unset, .unset, .unset] [(.int (32 : Int32)), (.int (4 : Int32)), (.ref b5), (.ref b5)])) _
      refine st10 _ ?_
      show Steps p.tables e below (T10.setTop (mkF m 39 #[.val (.int p1), .val (.int p2), .unset, .unset, .unset] [(.ref b5)])) _
      refine XS.dup X10.here hx rfl (hb hby at_39) rfl rfl ?_
      show Steps p.tables e below (T10.setTop (mkF m 40 #[.val (.int p1), .val (.int p2), .unset, .unset, .unset] [(.ref b5), (.ref b5)])) _
      refine XS.iconst X10.here hx rfl (hb hby at_40) ?_
      show Steps p.tables e below (T10.setTop (mkF m 41 #[.val (.int p1), .val (.int p2), .unset, .unset, .unset] [(.int (5 : Int32)), (.ref b5), (.ref b5)])) _
      refine X10.ldcI hx hown (mvT hZ (hw _ (List.mem_of_getElem? (i := 1) rfl))) rfl (hb hby at_41) ?_
      show Steps p.tables e below (T10.setTop (mkF m 43 #[.val (.int p1), .val (.int p2), .unset, .unset, .unset] [(.int (55295 : Int32)), (.int (5 : Int32)), (.ref b5), (.ref b5)])) _
      refine st11 _ ?_
      show Steps p.tables e below (T11.setTop (mkF m 44 #[.val (.int p1), .val (.int p2), .unset, .unset, .unset] [(.ref b5)])) _
      refine XS.dup X11.here hx rfl (hb hby at_44) rfl rfl ?_
      show Steps p.tables e below (T11.setTop (mkF m 45 #[.val (.int p1), .val (.int p2), .unset, .unset, .unset] [(.ref b5), (.ref b5)])) _
      refine XS.bipush X11.here hx rfl (hb hby at_45) ?_
      show Steps p.tables e below (T11.setTop (mkF m 47 #[.val (.int p1), .val (.int p2), .unset, .unset, .unset] [(.int (6 : Int32)), (.ref b5), (.ref b5)])) _
      refine X11.ldcI hx hown (mvT hZ (hw _ (List.mem_of_getElem? (i := 2) rfl))) rfl (hb hby at_47) ?_
      show Steps p.tables e below (T11.setTop (mkF m 49 #[.val (.int p1), .val (.int p2), .unset, .unset, .unset] [(.int (57344 : Int32)), (.int (6 : Int32)), (.ref b5), (.ref b5)])) _
      refine st12 _ ?_
      show Steps p.tables e below (T12.setTop (mkF m 50 #[.val (.int p1), .val (.int p2), .unset, .unset, .unset] [(.ref b5)])) _
      refine XS.dup X12.here hx rfl (hb hby at_50) rfl rfl ?_
      show Steps p.tables e below (T12.setTop (mkF m 51 #[.val (.int p1), .val (.int p2), .unset, .unset, .unset] [(.ref b5), (.ref b5)])) _
      refine XS.bipush X12.here hx rfl (hb hby at_51) ?_
      show Steps p.tables e below (T12.setTop (mkF m 53 #[.val (.int p1), .val (.int p2), .unset, .unset, .unset] [(.int (7 : Int32)), (.ref b5), (.ref b5)])) _
      refine X12.ldcI hx hown (mvT hZ (hw _ (List.mem_of_getElem? (i := 3) rfl))) rfl (hb hby at_53) ?_
      show Steps p.tables e below (T12.setTop (mkF m 55 #[.val (.int p1), .val (.int p2), .unset, .unset, .unset] [(.int (65533 : Int32)), (.int (7 : Int32)), (.ref b5), (.ref b5)])) _
      refine st13 _ ?_
      show Steps p.tables e below (T13.setTop (mkF m 56 #[.val (.int p1), .val (.int p2), .unset, .unset, .unset] [(.ref b5)])) _
      refine XS.dup X13.here hx rfl (hb hby at_56) rfl rfl ?_
      show Steps p.tables e below (T13.setTop (mkF m 57 #[.val (.int p1), .val (.int p2), .unset, .unset, .unset] [(.ref b5), (.ref b5)])) _
      refine XS.bipush X13.here hx rfl (hb hby at_57) ?_
      show Steps p.tables e below (T13.setTop (mkF m 59 #[.val (.int p1), .val (.int p2), .unset, .unset, .unset] [(.int (8 : Int32)), (.ref b5), (.ref b5)])) _
      refine X13.ldcI hx hown (mvT hZ (hw _ (List.mem_of_getElem? (i := 4) rfl))) rfl (hb hby at_59) ?_
      show Steps p.tables e below (T13.setTop (mkF m 61 #[.val (.int p1), .val (.int p2), .unset, .unset, .unset] [(.int (65536 : Int32)), (.int (8 : Int32)), (.ref b5), (.ref b5)])) _
      refine st14 _ ?_
      show Steps p.tables e below (T14.setTop (mkF m 62 #[.val (.int p1), .val (.int p2), .unset, .unset, .unset] [(.ref b5)])) _
      refine XS.dup X14.here hx rfl (hb hby at_62) rfl rfl ?_
      show Steps p.tables e below (T14.setTop (mkF m 63 #[.val (.int p1), .val (.int p2), .unset, .unset, .unset] [(.ref b5), (.ref b5)])) _
      refine XS.bipush X14.here hx rfl (hb hby at_63) ?_
      show Steps p.tables e below (T14.setTop (mkF m 65 #[.val (.int p1), .val (.int p2), .unset, .unset, .unset] [(.int (9 : Int32)), (.ref b5), (.ref b5)])) _
      refine X14.ldcI hx hown (mvT hZ (hw _ (List.mem_of_getElem? (i := 5) rfl))) rfl (hb hby at_65) ?_
      show Steps p.tables e below (T14.setTop (mkF m 67 #[.val (.int p1), .val (.int p2), .unset, .unset, .unset] [(.int (1114111 : Int32)), (.int (9 : Int32)), (.ref b5), (.ref b5)])) _
      refine st15 _ ?_
      show Steps p.tables e below (T15.setTop (mkF m 68 #[.val (.int p1), .val (.int p2), .unset, .unset, .unset] [(.ref b5)])) _
      refine XS.astoreN X15.here hx rfl (hb hby at_68) rfl rfl (l' := #[.val (.int p1), .val (.int p2), .unset, .val (.ref b5), .unset]) rfl ?_
      show Steps p.tables e below (T15.setTop (mkF m 69 #[.val (.int p1), .val (.int p2), .unset, .val (.ref b5), .unset] [])) _
      refine XS.iloadN X15.here hx rfl (hb hby at_69) rfl ?_
      show Steps p.tables e below (T15.setTop (mkF m 70 #[.val (.int p1), .val (.int p2), .unset, .val (.ref b5), .unset] [(.int p2)])) _
      refine XS.iconst X15.here hx rfl (hb hby at_70) ?_
      show Steps p.tables e below (T15.setTop (mkF m 71 #[.val (.int p1), .val (.int p2), .unset, .val (.ref b5), .unset] [(.int (1 : Int32)), (.int p2)])) _
      refine XS.iushr X15.here hx rfl (hb hby at_71) rfl ?_
      show Steps p.tables e below (T15.setTop (mkF m 72 #[.val (.int p1), .val (.int p2), .unset, .val (.ref b5), .unset] [(.int ((p2.toUInt32 >>> ((1 : Int32) &&& 31).toUInt32).toInt32))])) _
      refine XS.bipush X15.here hx rfl (hb hby at_72) ?_
      show Steps p.tables e below (T15.setTop (mkF m 74 #[.val (.int p1), .val (.int p2), .unset, .val (.ref b5), .unset] [(.int (15 : Int32)), (.int ((p2.toUInt32 >>> ((1 : Int32) &&& 31).toUInt32).toInt32))])) _
      refine XS.iand X15.here hx rfl (hb hby at_74) rfl ?_
      show Steps p.tables e below (T15.setTop (mkF m 75 #[.val (.int p1), .val (.int p2), .unset, .val (.ref b5), .unset] [(.int (((p2.toUInt32 >>> ((1 : Int32) &&& 31).toUInt32).toInt32) &&& (15 : Int32)))])) _
      refine XS.bipush X15.here hx rfl (hb hby at_75) ?_
      show Steps p.tables e below (T15.setTop (mkF m 77 #[.val (.int p1), .val (.int p2), .unset, .val (.ref b5), .unset] [(.int (10 : Int32)), (.int (((p2.toUInt32 >>> ((1 : Int32) &&& 31).toUInt32).toInt32) &&& (15 : Int32)))])) _
      refine iremM X15 hx rfl (hb hby at_77) rfl (by decide) ?_
      show Steps p.tables e below (T15.setTop (mkF m 78 #[.val (.int p1), .val (.int p2), .unset, .val (.ref b5), .unset] [(.int ((((p2.toUInt32 >>> ((1 : Int32) &&& 31).toUInt32).toInt32) &&& (15 : Int32)) % (10 : Int32)))])) _
      refine XS.istore X15.here hx rfl (hb hby at_78) rfl (l' := #[.val (.int p1), .val (.int p2), .unset, .val (.ref b5), .val (.int ((((p2.toUInt32 >>> ((1 : Int32) &&& 31).toUInt32).toInt32) &&& (15 : Int32)) % (10 : Int32)))]) rfl ?_
      show Steps p.tables e below (T15.setTop (mkF m 80 #[.val (.int p1), .val (.int p2), .unset, .val (.ref b5), .val (.int ((((p2.toUInt32 >>> ((1 : Int32) &&& 31).toUInt32).toInt32) &&& (15 : Int32)) % (10 : Int32)))] [])) _
      refine XS.aloadN X15.here hx rfl (hb hby at_80) rfl rfl ?_
      show Steps p.tables e below (T15.setTop (mkF m 81 #[.val (.int p1), .val (.int p2), .unset, .val (.ref b5), .val (.int ((((p2.toUInt32 >>> ((1 : Int32) &&& 31).toUInt32).toInt32) &&& (15 : Int32)) % (10 : Int32)))] [(.ref b5)])) _
      refine XS.iload X15.here hx rfl (hb hby at_81) rfl ?_
      show Steps p.tables e below (T15.setTop (mkF m 83 #[.val (.int p1), .val (.int p2), .unset, .val (.ref b5), .val (.int ((((p2.toUInt32 >>> ((1 : Int32) &&& 31).toUInt32).toInt32) &&& (15 : Int32)) % (10 : Int32)))] [(.int ((((p2.toUInt32 >>> ((1 : Int32) &&& 31).toUInt32).toInt32) &&& (15 : Int32)) % (10 : Int32))), (.ref b5)])) _
      refine X15.iaload hx (j := ((((p2.toUInt32 >>> ((1 : Int32) &&& 31).toUInt32).toInt32) &&& (15 : Int32)) % (10 : Int32))) (v := (.int w9)) (by rw [e15]; exact Ar_b5.1) (State.isArrayOf_alike hZ.alike Ar_b5.2.1) Ar_b5.2.2 hin83 hat83 (g := (mkF m 83 #[.val (.int p1), .val (.int p2), .unset, .val (.ref b5), .val (.int ((((p2.toUInt32 >>> ((1 : Int32) &&& 31).toUInt32).toInt32) &&& (15 : Int32)) % (10 : Int32)))] [(.int ((((p2.toUInt32 >>> ((1 : Int32) &&& 31).toUInt32).toInt32) &&& (15 : Int32)) % (10 : Int32))), (.ref b5)])) rfl rfl (hb hby at_83) _ ?_
      show Steps p.tables e below (T15.setTop (mkF m 84 #[.val (.int p1), .val (.int p2), .unset, .val (.ref b5), .val (.int ((((p2.toUInt32 >>> ((1 : Int32) &&& 31).toUInt32).toInt32) &&& (15 : Int32)) % (10 : Int32)))] [(.int w9)])) _
      refine XS.iloadN X15.here hx rfl (hb hby at_84) rfl ?_
      show Steps p.tables e below (T15.setTop (mkF m 85 #[.val (.int p1), .val (.int p2), .unset, .val (.ref b5), .val (.int ((((p2.toUInt32 >>> ((1 : Int32) &&& 31).toUInt32).toInt32) &&& (15 : Int32)) % (10 : Int32)))] [(.int p1), (.int w9)])) _
      refine XS.iconst X15.here hx rfl (hb hby at_85) ?_
      show Steps p.tables e below (T15.setTop (mkF m 86 #[.val (.int p1), .val (.int p2), .unset, .val (.ref b5), .val (.int ((((p2.toUInt32 >>> ((1 : Int32) &&& 31).toUInt32).toInt32) &&& (15 : Int32)) % (10 : Int32)))] [(.int (3 : Int32)), (.int p1), (.int w9)])) _
      refine XS.iand X15.here hx rfl (hb hby at_86) rfl ?_
      show Steps p.tables e below (T15.setTop (mkF m 87 #[.val (.int p1), .val (.int p2), .unset, .val (.ref b5), .val (.int ((((p2.toUInt32 >>> ((1 : Int32) &&& 31).toUInt32).toInt32) &&& (15 : Int32)) % (10 : Int32)))] [(.int (p1 &&& (3 : Int32))), (.int w9)])) _
      refine XS.iadd X15.here hx rfl (hb hby at_87) rfl ?_
      show Steps p.tables e below (T15.setTop (mkF m 88 #[.val (.int p1), .val (.int p2), .unset, .val (.ref b5), .val (.int ((((p2.toUInt32 >>> ((1 : Int32) &&& 31).toUInt32).toInt32) &&& (15 : Int32)) % (10 : Int32)))] [(.int (w9 + (p1 &&& (3 : Int32))))])) _
      refine XS.iconst X15.here hx rfl (hb hby at_88) ?_
      show Steps p.tables e below (T15.setTop (mkF m 89 #[.val (.int p1), .val (.int p2), .unset, .val (.ref b5), .val (.int ((((p2.toUInt32 >>> ((1 : Int32) &&& 31).toUInt32).toInt32) &&& (15 : Int32)) % (10 : Int32)))] [(.int (1 : Int32)), (.int (w9 + (p1 &&& (3 : Int32))))])) _
      refine XS.isub X15.here hx rfl (hb hby at_89) rfl ?_
      show Steps p.tables e below (T15.setTop (mkF m 90 #[.val (.int p1), .val (.int p2), .unset, .val (.ref b5), .val (.int ((((p2.toUInt32 >>> ((1 : Int32) &&& 31).toUInt32).toInt32) &&& (15 : Int32)) % (10 : Int32)))] [(.int ((w9 + (p1 &&& (3 : Int32))) - (1 : Int32)))])) _
      refine XS.istoreN X15.here hx rfl (hb hby at_90) rfl (l' := #[.val (.int p1), .val (.int p2), .val (.int ((w9 + (p1 &&& (3 : Int32))) - (1 : Int32))), .val (.ref b5), .val (.int ((((p2.toUInt32 >>> ((1 : Int32) &&& 31).toUInt32).toInt32) &&& (15 : Int32)) % (10 : Int32)))]) rfl ?_
      show Steps p.tables e below (T15.setTop (mkF m 91 #[.val (.int p1), .val (.int p2), .val (.int ((w9 + (p1 &&& (3 : Int32))) - (1 : Int32))), .val (.ref b5), .val (.int ((((p2.toUInt32 >>> ((1 : Int32) &&& 31).toUInt32).toInt32) &&& (15 : Int32)) % (10 : Int32)))] [])) _
      refine XS.iloadN X15.here hx rfl (hb hby at_91) rfl ?_
      show Steps p.tables e below (T15.setTop (mkF m 92 #[.val (.int p1), .val (.int p2), .val (.int ((w9 + (p1 &&& (3 : Int32))) - (1 : Int32))), .val (.ref b5), .val (.int ((((p2.toUInt32 >>> ((1 : Int32) &&& 31).toUInt32).toInt32) &&& (15 : Int32)) % (10 : Int32)))] [(.int ((w9 + (p1 &&& (3 : Int32))) - (1 : Int32)))])) _
      refine st16 _ ?_
      show Steps p.tables e below (T16.setTop (mkF m 95 #[.val (.int p1), .val (.int p2), .val (.int ((w9 + (p1 &&& (3 : Int32))) - (1 : Int32))), .val (.ref b5), .val (.int ((((p2.toUInt32 >>> ((1 : Int32) &&& 31).toUInt32).toInt32) &&& (15 : Int32)) % (10 : Int32)))] [(.int (own_P ((w9 + (p1 &&& (3 : Int32))) - (1 : Int32))))])) _
      refine XS.iloadN X16.here hx rfl (hb hby at_95) rfl ?_
      show Steps p.tables e below (T16.setTop (mkF m 96 #[.val (.int p1), .val (.int p2), .val (.int ((w9 + (p1 &&& (3 : Int32))) - (1 : Int32))), .val (.ref b5), .val (.int ((((p2.toUInt32 >>> ((1 : Int32) &&& 31).toUInt32).toInt32) &&& (15 : Int32)) % (10 : Int32)))] [(.int ((w9 + (p1 &&& (3 : Int32))) - (1 : Int32))), (.int (own_P ((w9 + (p1 &&& (3 : Int32))) - (1 : Int32))))])) _
      refine st17 _ ?_
      show Steps p.tables e below (T17.setTop (mkF m 99 #[.val (.int p1), .val (.int p2), .val (.int ((w9 + (p1 &&& (3 : Int32))) - (1 : Int32))), .val (.ref b5), .val (.int ((((p2.toUInt32 >>> ((1 : Int32) &&& 31).toUInt32).toInt32) &&& (15 : Int32)) % (10 : Int32)))] [(.int (own_P ((w9 + (p1 &&& (3 : Int32))) - (1 : Int32)))), (.int (own_P ((w9 + (p1 &&& (3 : Int32))) - (1 : Int32))))])) _
      refine XS.icmpNo X17.here hx rfl (hb hby at_99) rfl (teq (rfl : (own_P ((w9 + (p1 &&& (3 : Int32))) - (1 : Int32))) = (own_P ((w9 + (p1 &&& (3 : Int32))) - (1 : Int32))))).2 ?_
      show Steps p.tables e below (T17.setTop (mkF m 102 #[.val (.int p1), .val (.int p2), .val (.int ((w9 + (p1 &&& (3 : Int32))) - (1 : Int32))), .val (.ref b5), .val (.int ((((p2.toUInt32 >>> ((1 : Int32) &&& 31).toUInt32).toInt32) &&& (15 : Int32)) % (10 : Int32)))] [])) _
      refine XS.iconst X17.here hx rfl (hb hby at_102) ?_
      show Steps p.tables e below (T17.setTop (mkF m 103 #[.val (.int p1), .val (.int p2), .val (.int ((w9 + (p1 &&& (3 : Int32))) - (1 : Int32))), .val (.ref b5), .val (.int ((((p2.toUInt32 >>> ((1 : Int32) &&& 31).toUInt32).toInt32) &&& (15 : Int32)) % (10 : Int32)))] [(.int (1 : Int32))])) _
      refine XS.goto X17.here hx rfl (pc0 := 103) (pc' := 107) rfl (hb hby at_103) (by decide) (by decide) ?_
      exact k
    obtain ⟨fs, hr, hrun, hended, hW, hsame⟩ := X17.leave (v := some (.int (1 : Int32))) (fun h => by rw [Bd.returns] at h; cases h)
    refine ⟨_, _, pre18 _ ?_, hrun, hended, _, _, rfl, ?_, ⟨_, rfl⟩, hW, hsame.mono (by decide) (by decide)⟩
    · show Steps p.tables e below (T17.setTop (mkF m 107 #[.val (.int p1), .val (.int p2), .val (.int ((w9 + (p1 &&& (3 : Int32))) - (1 : Int32))), .val (.ref b5), .val (.int ((((p2.toUInt32 >>> ((1 : Int32) &&& 31).toUInt32).toInt32) &&& (15 : Int32)) % (10 : Int32)))] [(.int (1 : Int32))])) _
      exact retN X17 hx (t := .boolean) Bd.returns (by simp) (hb hby at_107) hr
    · show own_Q0 Z p1 p2 h0 n0 _ T17.heap _
      rw [e17]
      exact ⟨rfl, N17⟩
set_option maxRecDepth 65536 in
set_option maxHeartbeats 40000000 in
theorem comes_1 {Post : Tables → Env → Array Value → State → Outcome → State → Prop} (hpost : ∀ tb e args s v u, (limb_1_1.after args s (.returned v) u = true ∧ limb_1_2.after args s (.returned v) u = true ∧ True) → FrameEnd s (.returned v) u (Jvm.fieldLocs frame_1_writes args s ++ Jvm.arrayLocs frame_1_arrays args s ++ Jvm.staticLocs frame_1_statics s) 16 128 → Post tb e args s (.returned v) u) :
    ArmFor flags0 classFile x code maxLocals ret World_1 tables_1 room_1 Calls_1 rest_1 Pre_1 Post := by
  intro l hfl _ _ p e ha hc hk s m args below hf hA hF happ hP
  obtain ⟨hcalls, hrest, hpre⟩ := hP
  obtain ⟨-, -, -, hnamed, -, -, -, hat⟩ := (Spec.applies_iff hf).mp happ
  obtain ⟨hg, hn⟩ := and_e (Cond.before_iff.mp (show (Jvm.Cond.and given_1 narrow_1).before args s = true from hpre))
  obtain ⟨hg2, hg3⟩ := and_e hg
  obtain ⟨hg4, hg5⟩ := and_e hg3
  obtain ⟨w0, w1, rfl⟩ : ∃ w0 w1 : Value, args = #[w0, w1] := by
    have hs : args.size = 2 := by simpa [Cond.value, given_1] using hg2
    obtain ⟨L⟩ := args
    match L, hs with
    | [w0, w1], _ => exact ⟨w0, w1, rfl⟩
  have hw := fun d (hd : d ∈ tables_1) => atoms_spec (ws := Jvm.Cond.code x code maxLocals ret :: tables_1) hat d (List.mem_cons_of_mem _ hd)
  obtain ⟨i0, ei0⟩ := is_v hg4
  obtain rfl : w0 = (.int i0) := Option.some.inj ei0
  obtain ⟨i1, ei1⟩ := is_v hg5
  obtain rfl : w1 = (.int i1) := Option.some.inj ei1
  obtain ⟨n, o, h1, h2, h3, _, L, rfl, ⟨rfl, N⟩, hq⟩ := rm0 l s _ hw tables_1 i0 i1  s.heap s.heap.size (Nat.le_refl _)  p e ha hc hk s m _ below hf ((Spec.applies_iff_loose hf).mp happ).1 ⟨rfl, State.Warmed39.refl s, rfl⟩ trivial
  refine ⟨n, _, h1, h2, h3, hpost _ _ _ _ _ _ ⟨Cond.after_iff.mpr rfl, Cond.after_iff.mpr (eq_i res_at (Term.int_eval (1)) rfl), trivial⟩ ⟨hq.1, hq.2.1, (hq.2.2.sift fun y hy => Or.inr (N y hy)).mono (by decide) (by decide)⟩⟩
theorem main_1_1 : Claimed_1_1 := comes_1 fun _ _ _ _ _ _ h hF => ⟨h.1, hF⟩
theorem main_1_2 : Claimed_1_2 := comes_1 fun _ _ _ _ _ _ h hF => ⟨h.2.1, hF⟩
end Jvm.Pilot.@@N@@
namespace Jvm.Pilot.@@N@@
open Jvm Jvm.ClassFile Sem Op Lib Jvm.Free Jvm.Stand Jvm.Pilot.@@N@@.Jvm.D
/-! MADE BY PROGRAM (witnessworld.py) out of the Statement's table words and the real class files: 9 classes; the members and pool entries that the words name. The judged class is class 1, her method 1. -/
namespace start1
open Jvm.ClassFile
def u (s : String) : CpInfo := .utf8 (stringToUtf16 s)
/-- a pool by its gaps: so many unusable entries, then the entry; so many at the end -/
def gap : Nat → List CpInfo → List CpInfo
  | 0, r => r
  | n + 1, r => .unusable :: gap n r
def poolList (es : List (Nat × CpInfo)) (last : Nat) : List CpInfo := es.foldr (fun e r => gap e.1 (e.2 :: r)) (gap last [])
def pool (es : List (Nat × CpInfo)) (last : Nat) : Array CpInfo := ⟨poolList es last⟩
def fileOf (pool : Array CpInfo) (this : Nat) (attrs : Array Attribute := #[]) (ms : Array MethodInfo := #[]) (fl : Nat := 33) (sup : Nat := 0) (ifs : Array Nat := #[]) (fds : Array FieldInfo := #[]) : ClassFile where
  minorVersion := 0
  majorVersion := 65
  constantPool := pool
  accessFlags := fl
  thisClass := this
  superClass := sup
  interfaces := ifs
  fields := fds
  methods := ms
  attributes := attrs
def plain (name : String) (sup : Option ClassId) : Class where
  name := name
  kind := .ordinary
  loader := none
  accessFlags := 33
  super := sup
  interfaces := #[]
  cf := none
  fields := #[]
  methods := #[]
  instanceTypes := #[]
  staticTypes := #[]
  resolved := #[]
  callSites := []
  init := .initialized
  statics := none
  mirror := none

def pool0 : Array CpInfo := pool [(5, u "<init>"), (0, u "()V"), (1, .class_ 10), (1, u "java/lang/Object")] 113

def k0m0 : Method := { name := "<init>", desc := "()V", sig := { parameters := [], returnType := none }, accessFlags := 1, code := none }
/-- java/lang/Object -/
def k0 : Class := { plain "java/lang/Object" none with
  accessFlags := 33
  interfaces := #[]
  cf := some (fileOf pool0 8 #[] #[{ accessFlags := 1, nameIndex := 5, descriptorIndex := 6, attributes := #[] }] 33 0 #[] #[])
  fields := #[]
  methods := #[k0m0]
  instanceTypes := #[]
  staticTypes := #[]
  resolved := Array.replicate 124 none
  statics := none }

def pool1 : Array CpInfo := pool [(2, .class_ 4), (1, u "java/lang/Object"), (0, u "<init>"), (0, u "()V"), (0, .integer 55295), (0, .integer 57344), (0, .integer 65533), (0, .integer 65536), (0, .integer 1114111), (0, .methodref 13 14), (0, .class_ 15), (0, .nameAndType 16 17), (0, u "com/example/kennet/kennet/xdm/Characters"), (0, u "isPermitted"), (0, u "(I)Z"), (0, .methodref 19 20), (0, .class_ 21), (0, .nameAndType 22 17), (0, u "com/example/kennet/kennet/xdm/CharactersIsPermittedPinLaw"), (0, u "expected"), (0, .integer 55296), (0, .integer 57343), (0, .integer 65534), (0, .integer 65535), (2, u "law"), (0, u "(II)Z")] 3

def k1m0 : Method := { name := "<init>", desc := "()V", sig := { parameters := [], returnType := none }, accessFlags := 2, code := none }
def k1c1 : Code := { maxStack := 4, maxLocals := 5, code := code, exceptionTable := #[], attributes := #[] }
def k1m1 : Method := { name := "law", desc := "(II)Z", sig := { parameters := [.int, .int], returnType := some .boolean }, accessFlags := 9, code := some k1c1 }
def k1c2 : Code := { maxStack := 2, maxLocals := 5, code := method_3_code, exceptionTable := #[], attributes := #[] }
def k1m2 : Method := { name := "expected", desc := "(I)Z", sig := { parameters := [.int], returnType := some .boolean }, accessFlags := 10, code := some k1c2 }
/-- com/example/kennet/kennet/xdm/CharactersIsPermittedPinLaw -/
def k1 : Class := { plain "com/example/kennet/kennet/xdm/CharactersIsPermittedPinLaw" (some 0) with
  accessFlags := 49
  interfaces := #[]
  cf := some (fileOf pool1 19 #[] #[{ accessFlags := 2, nameIndex := 5, descriptorIndex := 6, attributes := #[] }, { accessFlags := 9, nameIndex := 29, descriptorIndex := 30, attributes := #[] }, { accessFlags := 10, nameIndex := 22, descriptorIndex := 17, attributes := #[] }] 49 2 #[] #[])
  fields := #[]
  methods := #[k1m0, k1m1, k1m2]
  instanceTypes := #[]
  staticTypes := #[]
  resolved := Array.replicate 34 none
  statics := none }

def pool2 : Array CpInfo := pool [(2, .class_ 4), (1, u "java/lang/Object"), (0, u "<init>"), (0, u "()V"), (0, .integer 55295), (0, .integer 57344), (0, .integer 65533), (0, .integer 65536), (0, .integer 1114111), (11, .class_ 25), (1, u "com/example/kennet/kennet/xdm/Characters"), (1, u "(I)Z"), (6, u "NAME_START_RANGES"), (0, u "[I"), (9, u "NAME_RANGES"), (6, u "isPermitted")] 7

def k2m0 : Method := { name := "<init>", desc := "()V", sig := { parameters := [], returnType := none }, accessFlags := 2, code := none }
def k2c1 : Code := { maxStack := 2, maxLocals := 1, code := prog_40_method_2_code, exceptionTable := #[], attributes := #[] }
def k2m1 : Method := { name := "isPermitted", desc := "(I)Z", sig := { parameters := [.int], returnType := some .boolean }, accessFlags := 9, code := some k2c1 }
/-- com/example/kennet/kennet/xdm/Characters -/
def k2 : Class := { plain "com/example/kennet/kennet/xdm/Characters" (some 0) with
  accessFlags := 49
  interfaces := #[]
  cf := some (fileOf pool2 23 #[] #[{ accessFlags := 2, nameIndex := 5, descriptorIndex := 6, attributes := #[] }, { accessFlags := 9, nameIndex := 52, descriptorIndex := 27, attributes := #[] }] 49 2 #[] #[{ accessFlags := 26, nameIndex := 34, descriptorIndex := 35, attributes := #[] }, { accessFlags := 26, nameIndex := 45, descriptorIndex := 35, attributes := #[] }])
  fields := #[{ name := "NAME_START_RANGES", type := (.array .int), accessFlags := 26, slot := 0, constantValue := 0 }, { name := "NAME_RANGES", type := (.array .int), accessFlags := 26, slot := 1, constantValue := 0 }]
  methods := #[k2m0, k2m1]
  instanceTypes := #[]
  staticTypes := #[(.array .int), (.array .int)]
  resolved := Array.replicate 60 none
  statics := none }

def pool3 : Array CpInfo := pool [(1, u "java/lang/Cloneable"), (0, .class_ 1), (0, u "java/lang/Object"), (0, .class_ 3)] 3

/-- java/lang/Cloneable -/
def k3 : Class := { plain "java/lang/Cloneable" (some 0) with
  accessFlags := 1537
  interfaces := #[]
  cf := some (fileOf pool3 2 #[] #[] 1537 4 #[] #[])
  fields := #[]
  methods := #[]
  instanceTypes := #[]
  staticTypes := #[]
  resolved := Array.replicate 8 none
  statics := none }

def pool4 : Array CpInfo := pool [(1, u "java/io/Serializable"), (0, .class_ 1), (0, u "java/lang/Object"), (0, .class_ 3)] 3

/-- java/io/Serializable -/
def k4 : Class := { plain "java/io/Serializable" (some 0) with
  accessFlags := 1537
  interfaces := #[]
  cf := some (fileOf pool4 2 #[] #[] 1537 4 #[] #[])
  fields := #[]
  methods := #[]
  instanceTypes := #[]
  staticTypes := #[]
  resolved := Array.replicate 8 none
  statics := none }

/-- the primitive byte -/
def k5 : Class := { plain "byte" none with kind := .primitive 'B', accessFlags := 0x411 }
/-- [B -/
def k6 : Class := { plain "[B" (some 0) with kind := .array 5 .byte, interfaces := #[3, 4], accessFlags := 1041 }

/-- the primitive int -/
def k7 : Class := { plain "int" none with kind := .primitive 'I', accessFlags := 0x411 }
/-- [I -/
def k8 : Class := { plain "[I" (some 0) with kind := .array 7 .int, interfaces := #[3, 4], accessFlags := 1041 }

def heap : Heap := #[]
def classes : Array Class := #[k0, k1, k2, k3, k4, k5, k6, k7, k8]
def interned : List (Array UInt16 × Addr) := []
def slotsUsed : Nat := 0
def theMethod : MethodId := ⟨1, 1⟩
def args0 : Array Value := #[.int 5, .int 7]
def aboutOver (below : List Frame) : State where
  vm := { classes := classes, interned := interned.toArray }
  heap := heap
  slotsUsed := slotsUsed
  threads := #[{ frames := .invoking theMethod args0 :: below }]
def below0 : List Frame := [.native { method := ⟨0, 0⟩, args := #[] }]
def about1 : State := aboutOver below0
def p0 : Program := .bare "" "" ""
def e0 : Env := launch0.env 0 0 0
theorem w_frames : about1.frames = Frame.invoking theMethod args0 :: below0 := rfl
set_option maxRecDepth 65536 in
theorem w_args : argsFit about1.vm theMethod args0 = true := by decide +kernel
set_option maxRecDepth 65536 in
theorem w_heap : heapFits about1 = true := by decide +kernel
set_option maxRecDepth 65536 in
theorem w_runnable : about1.curStatus? = some .runnable := by decide +kernel
set_option maxRecDepth 65536 in
theorem w_alone : about1.alone = true := by decide +kernel
set_option maxRecDepth 65536 in
theorem w_named : about1.methodNamed? x = some theMethod := by decide +kernel
set_option maxRecDepth 65536 in
theorem w_hears : about1.hears theMethod below0 = true := by decide +kernel
set_option maxRecDepth 65536 in
theorem w_ripe : about1.ripe theMethod args0 below0 = true := by decide +kernel
theorem w_running : about1.status = .running := rfl
set_option maxRecDepth 65536 in
theorem w_room : about1.hasRoom e0.platform room_1 = true :=
  launch0.hasRoom_least _ room_1 (by decide +kernel) (by decide +kernel) (by decide +kernel) (by decide +kernel) (by decide +kernel) (by decide +kernel)
theorem allAtoms_all (ts : List Jvm.Cond) (a : Array Jvm.Value) (st : Jvm.State) : (allAtoms ts).before a st = ts.all (fun c => c.before a st) := by
  induction ts with
  | nil => rfl
  | cons c t ih =>
    show (Jvm.Cond.and c (allAtoms t)).before a st = _
    rw [Jvm.Cond.before_and, ih, List.all_cons]
def words1 : List Jvm.Cond := Jvm.Cond.code x code maxLocals ret :: tables_1
/-- a 'code' word, met by the world's own term for the bytes: nothing is compared byte by byte -/
theorem code_word {y : MethodName} {bytes : ByteArray} {mx : Nat} {rt : Option FieldType} {a : Array Value} {s : State} {m : MethodId} {meth : Method} {c : Code} (h1 : s.methodNamed? y = some m) (h2 : s.vm.method? m = some meth) (h3 : meth.code = some c) (h4 : c.code = bytes)
    (h5 : (c.maxLocals == mx && c.exceptionTable.isEmpty && decide (c.maxStack ≤ mostOperands) && decide (meth.sig.returnType = rt) && !meth.locks && decide (parseMethodDescriptor y.desc = some meth.sig)) = true) : (Jvm.Cond.code y bytes mx rt).before a s = true := by
  simp only [Bool.and_eq_true, beq_iff_eq, Bool.not_eq_true', decide_eq_true_eq] at h5
  obtain ⟨⟨⟨⟨⟨g1, g2⟩, g3⟩, g4⟩, g5⟩, g6⟩ := h5
  simp [Cond.before, Cond.holds, Cond.value, h1, h2, h3, h4, g1, g2, g3, g4, g5, g6]
def isCode : Jvm.Cond → Bool
  | .code _ _ _ _ => true
  | _ => false
theorem all_split {L : List Jvm.Cond} {P : Jvm.Cond → Bool} (h1 : L.all (fun c => isCode c || P c) = true) (h2 : ∀ c ∈ L.filter isCode, P c = true) : L.all P = true := by
  refine List.all_eq_true.mpr fun c hc => ?_
  have h := List.all_eq_true.mp h1 c hc
  rcases Bool.eq_false_or_eq_true (isCode c) with hi | hi
  · exact h2 c (List.mem_filter.mpr ⟨hc, hi⟩)
  · simpa [hi] using h
set_option maxRecDepth 65536 in
theorem w_c0 : (Jvm.Cond.code x code maxLocals ret).before args0 about1 = true := code_word (m := ⟨1, 1⟩) (meth := k1m1) (c := k1c1) (by decide +kernel) rfl rfl rfl (by decide +kernel)
set_option maxRecDepth 65536 in
theorem w_c1 : (Jvm.Cond.code ({ cls := "com/example/kennet/kennet/xdm/Characters", name := "isPermitted", desc := "(I)Z" } : Jvm.MethodName) prog_40_method_2_code (1 : Nat) (Option.some Jvm.ClassFile.FieldType.boolean)).before args0 about1 = true := code_word (m := ⟨2, 1⟩) (meth := k2m1) (c := k2c1) (by decide +kernel) rfl rfl rfl (by decide +kernel)
set_option maxRecDepth 65536 in
theorem w_c2 : (Jvm.Cond.code ({ cls := "com/example/kennet/kennet/xdm/CharactersIsPermittedPinLaw", name := "expected", desc := "(I)Z" } : Jvm.MethodName) method_3_code (5 : Nat) (Option.some Jvm.ClassFile.FieldType.boolean)).before args0 about1 = true := code_word (m := ⟨1, 2⟩) (meth := k1m2) (c := k1c2) (by decide +kernel) rfl rfl rfl (by decide +kernel)
def codes1 : List Jvm.Cond := [Jvm.Cond.code x code maxLocals ret, Jvm.Cond.code ({ cls := "com/example/kennet/kennet/xdm/Characters", name := "isPermitted", desc := "(I)Z" } : Jvm.MethodName) prog_40_method_2_code (1 : Nat) (Option.some Jvm.ClassFile.FieldType.boolean), Jvm.Cond.code ({ cls := "com/example/kennet/kennet/xdm/CharactersIsPermittedPinLaw", name := "expected", desc := "(I)Z" } : Jvm.MethodName) method_3_code (5 : Nat) (Option.some Jvm.ClassFile.FieldType.boolean)]
set_option maxRecDepth 65536 in
theorem codes_eq : words1.filter isCode = codes1 := rfl
theorem w_codes : ∀ c ∈ words1.filter isCode, c.before args0 about1 = true := by
  rw [codes_eq]
  intro c hc
  simp only [codes1, List.mem_cons, List.not_mem_nil, or_false] at hc
  rcases hc with rfl | rfl | rfl
  · exact w_c0
  · exact w_c1
  · exact w_c2
set_option maxRecDepth 65536 in
theorem w_t1 : words1.all (fun c => isCode c || c.before args0 about1) = true := by decide +kernel
theorem w_tables : (allAtoms (Jvm.Cond.code x code maxLocals ret :: tables_1)).before args0 about1 = true := by
  rw [allAtoms_all]
  show words1.all (fun c => c.before args0 about1) = true
  refine all_split ?_ w_codes
  rw [w_t1]
set_option maxRecDepth 65536 in
theorem w_case : (Jvm.Cond.and given_1 narrow_1).before args0 about1 = true := by decide +kernel
theorem w_applies : (headSpec (Jvm.Cond.code x code maxLocals ret :: tables_1) room_1).applies x e0.platform about1 = true :=
  (Spec.applies_iff w_frames).mpr ⟨w_running, w_runnable, w_alone, w_named, w_hears, w_ripe, w_room, w_tables⟩
theorem atStart : AtStart classFile x code maxLocals ret World_1 tables_1 room_1 Calls_1 rest_1 Pre_1 launch0 p0 e0 about1 theMethod args0 below0 :=
  ⟨lists_1, trivial, launch0.admits_env _ _ _, launch0.least_env, fairChoices_fair.cas, fairChoices_fair.clock, w_frames, w_args, w_heap, w_applies, trivial, trivial, w_case⟩
end start1
theorem witness_1 : WitnessClaimed_1 := ⟨start1.p0, start1.e0, start1.about1, start1.theMethod, start1.args0, start1.below0, start1.atStart⟩
end Jvm.Pilot.@@N@@
