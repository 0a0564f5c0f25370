import JvmDerived
import JvmDerived.Pilot.@@N@@Statement
import JvmDerived.Pilot.@@N@@Code
set_option linter.unusedVariables false
set_option linter.unusedSimpArgs false
namespace Jvm.RoadKit
open Sem ClassFile Op Lib Jvm.Stand Jvm.Free Jvm.LawKit
section New
variable {p : Program} {l : Launch} {e : Env} {R : Room} {s : State} {m : MethodId} {args : Array Value} {below : List Frame} {meth : Method} {c : Code} {T : State} {locs : List Loc} {cells slots : Nat}
theorem retI (X : Stand p l e R s m args below meth c T locs cells slots) (hx : p.tables.exec = Jvm.exec) {pc : Nat} {Ls : Array Slot} {z : Int32} {rest : List Value} (hret : meth.sig.returnType = some .int) (hd : decode c.code pc = .ok (.ireturn, 1)) {fs : List Frame}
    (hl : ∀ (f : JFrame) (acts : List Action), f.method = m → f.locked = none → f.entered = [] → (doReturn e (T.setTop f) acts (some (.int z))).1 = T.setFrames fs) : Steps p.tables e below (T.setTop (mkF m pc Ls (.int z :: rest))) (T.setFrames fs) := by
  have hm' : T.vm.method? m = some meth := X.method'
  have hn : narrow .int (.int z) = .int z := rfl
  show Steps p.tables e below (T.setTop { method := m, pc := pc, locals := Ls, stack := _ :: rest, locked := none }) _
  jvm_step X.here [X.here.top, hx, hd, hm', hret, hn]
  first | (intro acts; rw [hl _ acts rfl rfl rfl]) | rw [hl _ _ rfl rfl rfl]
  exact Steps.refl _
end New
end Jvm.RoadKit
namespace Jvm.Pilot.@@N@@
open Jvm Jvm.ClassFile Sem Op Lib Jvm.Free Jvm.Stand Jvm.LawKit Jvm.RoadKit Bundle Jvm.Pilot.@@N@@.Jvm.D
theorem own_lt (a b : Int32) : a < b ↔ a.toInt < b.toInt := Int32.lt_iff_toInt_lt
theorem own_eq (a b : Int32) : a = b ↔ a.toInt = b.toInt := Int32.toInt_inj.symm
theorem own_getI (l : List Int32) (k : Nat) : (l.map Value.int).getD k (.int 0) = .int (l.getD k 0) := by
  induction l generalizing k with
  | nil => rfl
  | cons a t ih => cases k with
    | zero => rfl
    | succ k => exact ih k
theorem own_nv {z : Int32} (h : z = 0 ∨ z = 1) : narrow .boolean (.int z) = .int z := by rcases h with rfl | rfl <;> rfl
theorem own_fitb {z : Int32} (h : z = 0 ∨ z = 1) : fits .boolean (.int z) = true := by rcases h with rfl | rfl <;> rfl
theorem own_nar {z : Int32} (h : z = 0 ∨ z = 1) : nar .boolean z = z := by rcases h with rfl | rfl <;> rfl
def own_W (c : Int32) : Int32 := if c.toInt = 32 ∨ c.toInt = 9 ∨ c.toInt = 10 ∨ c.toInt = 13 then 1 else 0
theorem own_W1 {c : Int32} (h : c.toInt = 32 ∨ c.toInt = 9 ∨ c.toInt = 10 ∨ c.toInt = 13) : (1 : Int32) = own_W c := by rw [own_W, if_pos h]
theorem own_W0 {c : Int32} (h : ¬ (c.toInt = 32 ∨ c.toInt = 9 ∨ c.toInt = 10 ∨ c.toInt = 13)) : (0 : Int32) = own_W c := by rw [own_W, if_neg h]
theorem own_in (b : Int32) : ¬ (b &&& 15) < 0 ∧ (b &&& 15) < 16 := by
  have q := c_mask b 15 4 (by decide) (by decide)
  simp only [own_lt, Int32.reduceToInt]
  omega
theorem own_pn1 : plainName "com/example/kennet/kennet/xdm/Characters" = true := by first | (simp [plainName, overriddenIn]; done) | decide +kernel
theorem own_pn2 : plainName "com/example/kennet/kennet/xdm/CharactersIsWhitespacePinLaw" = true := by first | (simp [plainName, overriddenIn]; done) | decide +kernel
theorem own_pn0 : plainName "com/example/kennet/kennet/xdm/CharactersIsWhitespacePinLaw" = true := by first | (simp [plainName, overriddenIn]; done) | decide +kernel
theorem own_pd0 : parseMethodDescriptor "(I)Z" = some ⟨[.int], some .boolean⟩ := by decide +kernel
theorem own_d1_0 : decode prog_40_method_3_code 0 = .ok (.iload_n 0, 1) := by decide +kernel
theorem own_d1_1 : decode prog_40_method_3_code 1 = .ok (.bipush 32, 2) := by decide +kernel
theorem own_d1_3 : decode prog_40_method_3_code 3 = .ok (.if_icmp .eq 21, 3) := by decide +kernel
theorem own_d1_6 : decode prog_40_method_3_code 6 = .ok (.iload_n 0, 1) := by decide +kernel
theorem own_d1_7 : decode prog_40_method_3_code 7 = .ok (.bipush 9, 2) := by decide +kernel
theorem own_d1_9 : decode prog_40_method_3_code 9 = .ok (.if_icmp .eq 15, 3) := by decide +kernel
theorem own_d1_12 : decode prog_40_method_3_code 12 = .ok (.iload_n 0, 1) := by decide +kernel
theorem own_d1_13 : decode prog_40_method_3_code 13 = .ok (.bipush 10, 2) := by decide +kernel
theorem own_d1_15 : decode prog_40_method_3_code 15 = .ok (.if_icmp .eq 9, 3) := by decide +kernel
theorem own_d1_18 : decode prog_40_method_3_code 18 = .ok (.iload_n 0, 1) := by decide +kernel
theorem own_d1_19 : decode prog_40_method_3_code 19 = .ok (.bipush 13, 2) := by decide +kernel
theorem own_d1_21 : decode prog_40_method_3_code 21 = .ok (.if_icmp .ne 7, 3) := by decide +kernel
theorem own_d1_24 : decode prog_40_method_3_code 24 = .ok (.iconst 1, 1) := by decide +kernel
theorem own_d1_25 : decode prog_40_method_3_code 25 = .ok (.goto 4, 3) := by decide +kernel
theorem own_d1_28 : decode prog_40_method_3_code 28 = .ok (.iconst 0, 1) := by decide +kernel
theorem own_d1_29 : decode prog_40_method_3_code 29 = .ok (.ireturn, 1) := by decide +kernel
theorem own_ef1 (m : MethodId) (x0 : Int32) : entryFrame m #[(.int x0)] 1 = mkF m 0 #[.val (.int x0)] [] := by first | (simp [entryFrame, mkF, argsToLocals, Value.category]; done) | rfl
def own_Q1 (Z : State) (p1 : Int32) (h0 : Heap) (n0 : Nat) (v : Option Value) (h : Heap) (L : List Loc) : Prop := v = some (.int (own_W p1)) ∧ Fr n0 L ∧ h = h0
set_option maxRecDepth 65536 in
set_option maxHeartbeats 40000000 in
theorem rm1 (l : Launch) (Z : State) (a0 : Array Value) (hw : ∀ d ∈ tables_1, d.before a0 Z = true) (ws : List Jvm.Cond) (p1 : Int32) (h0 : Heap) (n0 : Nat) (Z0 : n0 ≤ h0.size)  :
    MetFree l (⟨"com/example/kennet/kennet/xdm/Characters", "isWhitespace", "(I)Z"⟩ : MethodName) (head1 (Jvm.Cond.code (⟨"com/example/kennet/kennet/xdm/Characters", "isWhitespace", "(I)Z"⟩ : MethodName) prog_40_method_3_code 1 (some .boolean) :: ws) ({ frames := 0, cells := 0, slots := 0, locals := 0 } : Room)) (fun a U => a = #[(.int p1)] ∧ Z.Warmed39 U.vm ∧ U.heap = h0) (fun _ _ _ _ _ => True) (fun _ U o U' => ∃ v L, o = .returned v ∧ own_Q1 Z p1 h0 n0 v U'.heap L ∧ FrameEnd U o U' L ({ frames := 0, cells := 0, slots := 0, locals := 0 } : Room).cells ({ frames := 0, cells := 0, slots := 0, locals := 0 } : Room).slots) := by
  refine MetFree.of_bodySF (plainFor_of_name own_pn1) hisR ?_
  intro p e s m args below meth c s₁ Bd hml0 hP hK
  obtain ⟨rfl, hZ, hh⟩ := hP
  have hx := Bd.exec
  have hby := Bd.bytes
  have hml : c.maxLocals = 1 := hml0
  have hown : s.vm.findClass "com/example/kennet/kennet/xdm/Characters" = some m.cls := findClass_of_methodNamed Bd.named
  have hnm := (name_of_methodNamed Bd.named Bd.method).1
  have X0 : Stand p l e ({ frames := 0, cells := 0, slots := 0, locals := 0 } : Room) s m #[(.int p1)] below meth c s₁ [] 0 0 := Stand.of_body Bd
  have e0 : s₁.heap = h0 := by rw [← hh, Bd.state]; rfl
  have N0 := Fr.nil n0
  have pre0 : ∀ t, Steps p.tables e below (s₁.setTop (mkF m 0 #[.val (.int p1)] [])) t → Steps p.tables e below (s₁.setTop (entryFrame m #[(.int p1)] 1)) t := fun t k => castTop (own_ef1 m p1) k
  have pre1 : ∀ t, Steps p.tables e below (s₁.setTop (mkF m 3 #[.val (.int p1)] [(.int (32 : Int32)), (.int p1)])) t → Steps p.tables e below (s₁.setTop (entryFrame m #[(.int p1)] 1)) t := by
    intro t k
    refine pre0 _ ?_
    show Steps p.tables e below (s₁.setTop (mkF m 0 #[.val (.int p1)] [])) _
    refine XS.iloadN X0.here hx rfl (hb hby own_d1_0) rfl ?_
    show Steps p.tables e below (s₁.setTop (mkF m 1 #[.val (.int p1)] [(.int p1)])) _
    refine XS.bipush X0.here hx rfl (hb hby own_d1_1) ?_
    exact k
  by_cases hc3 : p1 = (32 : Int32)
  · -- hc3 
    have pre2 : ∀ t, Steps p.tables e below (s₁.setTop (mkF m 29 #[.val (.int p1)] [(.int (1 : Int32))])) t → Steps p.tables e below (s₁.setTop (entryFrame m #[(.int p1)] 1)) t := by
      intro t k
      refine pre1 _ ?_
      show Steps p.tables e below (s₁.setTop (mkF m 3 #[.val (.int p1)] [(.int (32 : Int32)), (.int p1)])) _
      refine XS.icmpYes X0.here hx rfl (pc0 := 3) (pc' := 24) rfl (hb hby own_d1_3) rfl (teq hc3).1 (by decide) (by decide) ?_
      show Steps p.tables e below (s₁.setTop (mkF m 24 #[.val (.int p1)] [])) _
      refine XS.iconst X0.here hx rfl (hb hby own_d1_24) ?_
      show Steps p.tables e below (s₁.setTop (mkF m 25 #[.val (.int p1)] [(.int (1 : Int32))])) _
      refine XS.goto X0.here hx rfl (pc0 := 25) (pc' := 29) rfl (hb hby own_d1_25) (by decide) (by decide) ?_
      exact k
    obtain ⟨fs, hr, hrun, hended, hW, hsame⟩ := X0.leave (v := some (.int (1 : Int32))) (fun h => by rw [Bd.returns] at h; cases h)
    refine ⟨_, _, pre2 _ ?_, hrun, hended, _, _, rfl, ?_, ⟨_, rfl⟩, hW, hsame.mono (by decide) (by decide)⟩
    · show Steps p.tables e below (s₁.setTop (mkF m 29 #[.val (.int p1)] [(.int (1 : Int32))])) _
      exact retN X0 hx (t := .boolean) Bd.returns (by simp) (hb hby own_d1_29) hr
    · show own_Q1 Z p1 h0 n0 _ s₁.heap _
      rw [e0]
      exact ⟨congrArg (fun z => some (Value.int z)) (show (1 : Int32) = (own_W p1) from own_W1 (by simp only [own_lt, own_eq, Int32.reduceToInt] at hc3; omega)), N0, rfl⟩
  · -- hc3 not
    have pre3 : ∀ t, Steps p.tables e below (s₁.setTop (mkF m 9 #[.val (.int p1)] [(.int (9 : Int32)), (.int p1)])) t → Steps p.tables e below (s₁.setTop (entryFrame m #[(.int p1)] 1)) t := by
      intro t k
      refine pre1 _ ?_
      show Steps p.tables e below (s₁.setTop (mkF m 3 #[.val (.int p1)] [(.int (32 : Int32)), (.int p1)])) _
      refine XS.icmpNo X0.here hx rfl (hb hby own_d1_3) rfl (feq hc3).1 ?_
      show Steps p.tables e below (s₁.setTop (mkF m 6 #[.val (.int p1)] [])) _
      refine XS.iloadN X0.here hx rfl (hb hby own_d1_6) rfl ?_
      show Steps p.tables e below (s₁.setTop (mkF m 7 #[.val (.int p1)] [(.int p1)])) _
      refine XS.bipush X0.here hx rfl (hb hby own_d1_7) ?_
      exact k
    by_cases hc9 : p1 = (9 : Int32)
    · -- hc9 
      have pre4 : ∀ t, Steps p.tables e below (s₁.setTop (mkF m 29 #[.val (.int p1)] [(.int (1 : Int32))])) t → Steps p.tables e below (s₁.setTop (entryFrame m #[(.int p1)] 1)) t := by
        intro t k
        refine pre3 _ ?_
        show Steps p.tables e below (s₁.setTop (mkF m 9 #[.val (.int p1)] [(.int (9 : Int32)), (.int p1)])) _
        refine XS.icmpYes X0.here hx rfl (pc0 := 9) (pc' := 24) rfl (hb hby own_d1_9) rfl (teq hc9).1 (by decide) (by decide) ?_
        show Steps p.tables e below (s₁.setTop (mkF m 24 #[.val (.int p1)] [])) _
        refine XS.iconst X0.here hx rfl (hb hby own_d1_24) ?_
        show Steps p.tables e below (s₁.setTop (mkF m 25 #[.val (.int p1)] [(.int (1 : Int32))])) _
        refine XS.goto X0.here hx rfl (pc0 := 25) (pc' := 29) rfl (hb hby own_d1_25) (by decide) (by decide) ?_
        exact k
      obtain ⟨fs, hr, hrun, hended, hW, hsame⟩ := X0.leave (v := some (.int (1 : Int32))) (fun h => by rw [Bd.returns] at h; cases h)
      refine ⟨_, _, pre4 _ ?_, hrun, hended, _, _, rfl, ?_, ⟨_, rfl⟩, hW, hsame.mono (by decide) (by decide)⟩
      · show Steps p.tables e below (s₁.setTop (mkF m 29 #[.val (.int p1)] [(.int (1 : Int32))])) _
        exact retN X0 hx (t := .boolean) Bd.returns (by simp) (hb hby own_d1_29) hr
      · show own_Q1 Z p1 h0 n0 _ s₁.heap _
        rw [e0]
        exact ⟨congrArg (fun z => some (Value.int z)) (show (1 : Int32) = (own_W p1) from own_W1 (by simp only [own_lt, own_eq, Int32.reduceToInt] at hc3 hc9; omega)), N0, rfl⟩
    · -- hc9 not
      have pre5 : ∀ t, Steps p.tables e below (s₁.setTop (mkF m 15 #[.val (.int p1)] [(.int (10 : Int32)), (.int p1)])) t → Steps p.tables e below (s₁.setTop (entryFrame m #[(.int p1)] 1)) t := by
        intro t k
        refine pre3 _ ?_
        show Steps p.tables e below (s₁.setTop (mkF m 9 #[.val (.int p1)] [(.int (9 : Int32)), (.int p1)])) _
        refine XS.icmpNo X0.here hx rfl (hb hby own_d1_9) rfl (feq hc9).1 ?_
        show Steps p.tables e below (s₁.setTop (mkF m 12 #[.val (.int p1)] [])) _
        refine XS.iloadN X0.here hx rfl (hb hby own_d1_12) rfl ?_
        show Steps p.tables e below (s₁.setTop (mkF m 13 #[.val (.int p1)] [(.int p1)])) _
        refine XS.bipush X0.here hx rfl (hb hby own_d1_13) ?_
        exact k
      by_cases hc15 : p1 = (10 : Int32)
      · -- hc15 
        have pre6 : ∀ t, Steps p.tables e below (s₁.setTop (mkF m 29 #[.val (.int p1)] [(.int (1 : Int32))])) t → Steps p.tables e below (s₁.setTop (entryFrame m #[(.int p1)] 1)) t := by
          intro t k
          refine pre5 _ ?_
          show Steps p.tables e below (s₁.setTop (mkF m 15 #[.val (.int p1)] [(.int (10 : Int32)), (.int p1)])) _
          refine XS.icmpYes X0.here hx rfl (pc0 := 15) (pc' := 24) rfl (hb hby own_d1_15) rfl (teq hc15).1 (by decide) (by decide) ?_
          show Steps p.tables e below (s₁.setTop (mkF m 24 #[.val (.int p1)] [])) _
          refine XS.iconst X0.here hx rfl (hb hby own_d1_24) ?_
          show Steps p.tables e below (s₁.setTop (mkF m 25 #[.val (.int p1)] [(.int (1 : Int32))])) _
          refine XS.goto X0.here hx rfl (pc0 := 25) (pc' := 29) rfl (hb hby own_d1_25) (by decide) (by decide) ?_
          exact k
        obtain ⟨fs, hr, hrun, hended, hW, hsame⟩ := X0.leave (v := some (.int (1 : Int32))) (fun h => by rw [Bd.returns] at h; cases h)
        refine ⟨_, _, pre6 _ ?_, hrun, hended, _, _, rfl, ?_, ⟨_, rfl⟩, hW, hsame.mono (by decide) (by decide)⟩
        · show Steps p.tables e below (s₁.setTop (mkF m 29 #[.val (.int p1)] [(.int (1 : Int32))])) _
          exact retN X0 hx (t := .boolean) Bd.returns (by simp) (hb hby own_d1_29) hr
        · show own_Q1 Z p1 h0 n0 _ s₁.heap _
          rw [e0]
          exact ⟨congrArg (fun z => some (Value.int z)) (show (1 : Int32) = (own_W p1) from own_W1 (by simp only [own_lt, own_eq, Int32.reduceToInt] at hc3 hc9 hc15; omega)), N0, rfl⟩
      · -- hc15 not
        have pre7 : ∀ t, Steps p.tables e below (s₁.setTop (mkF m 21 #[.val (.int p1)] [(.int (13 : Int32)), (.int p1)])) t → Steps p.tables e below (s₁.setTop (entryFrame m #[(.int p1)] 1)) t := by
          intro t k
          refine pre5 _ ?_
          show Steps p.tables e below (s₁.setTop (mkF m 15 #[.val (.int p1)] [(.int (10 : Int32)), (.int p1)])) _
          refine XS.icmpNo X0.here hx rfl (hb hby own_d1_15) rfl (feq hc15).1 ?_
          show Steps p.tables e below (s₁.setTop (mkF m 18 #[.val (.int p1)] [])) _
          refine XS.iloadN X0.here hx rfl (hb hby own_d1_18) rfl ?_
          show Steps p.tables e below (s₁.setTop (mkF m 19 #[.val (.int p1)] [(.int p1)])) _
          refine XS.bipush X0.here hx rfl (hb hby own_d1_19) ?_
          exact k
        by_cases hc21 : p1 = (13 : Int32)
        · -- hc21 
          have pre8 : ∀ t, Steps p.tables e below (s₁.setTop (mkF m 29 #[.val (.int p1)] [(.int (1 : Int32))])) t → Steps p.tables e below (s₁.setTop (entryFrame m #[(.int p1)] 1)) t := by
            intro t k
            refine pre7 _ ?_
            show Steps p.tables e below (s₁.setTop (mkF m 21 #[.val (.int p1)] [(.int (13 : Int32)), (.int p1)])) _
            refine XS.icmpNo X0.here hx rfl (hb hby own_d1_21) rfl (teq hc21).2 ?_
            show Steps p.tables e below (s₁.setTop (mkF m 24 #[.val (.int p1)] [])) _
            refine XS.iconst X0.here hx rfl (hb hby own_d1_24) ?_
            show Steps p.tables e below (s₁.setTop (mkF m 25 #[.val (.int p1)] [(.int (1 : Int32))])) _
            refine XS.goto X0.here hx rfl (pc0 := 25) (pc' := 29) rfl (hb hby own_d1_25) (by decide) (by decide) ?_
            exact k
          obtain ⟨fs, hr, hrun, hended, hW, hsame⟩ := X0.leave (v := some (.int (1 : Int32))) (fun h => by rw [Bd.returns] at h; cases h)
          refine ⟨_, _, pre8 _ ?_, hrun, hended, _, _, rfl, ?_, ⟨_, rfl⟩, hW, hsame.mono (by decide) (by decide)⟩
          · show Steps p.tables e below (s₁.setTop (mkF m 29 #[.val (.int p1)] [(.int (1 : Int32))])) _
            exact retN X0 hx (t := .boolean) Bd.returns (by simp) (hb hby own_d1_29) hr
          · show own_Q1 Z p1 h0 n0 _ s₁.heap _
            rw [e0]
            exact ⟨congrArg (fun z => some (Value.int z)) (show (1 : Int32) = (own_W p1) from own_W1 (by simp only [own_lt, own_eq, Int32.reduceToInt] at hc3 hc9 hc15 hc21; omega)), N0, rfl⟩
        · -- hc21 not
          have pre9 : ∀ t, Steps p.tables e below (s₁.setTop (mkF m 29 #[.val (.int p1)] [(.int (0 : Int32))])) t → Steps p.tables e below (s₁.setTop (entryFrame m #[(.int p1)] 1)) t := by
            intro t k
            refine pre7 _ ?_
            show Steps p.tables e below (s₁.setTop (mkF m 21 #[.val (.int p1)] [(.int (13 : Int32)), (.int p1)])) _
            refine XS.icmpYes X0.here hx rfl (pc0 := 21) (pc' := 28) rfl (hb hby own_d1_21) rfl (feq hc21).2 (by decide) (by decide) ?_
            show Steps p.tables e below (s₁.setTop (mkF m 28 #[.val (.int p1)] [])) _
            refine XS.iconst X0.here hx rfl (hb hby own_d1_28) ?_
            exact k
          obtain ⟨fs, hr, hrun, hended, hW, hsame⟩ := X0.leave (v := some (.int (0 : Int32))) (fun h => by rw [Bd.returns] at h; cases h)
          refine ⟨_, _, pre9 _ ?_, hrun, hended, _, _, rfl, ?_, ⟨_, rfl⟩, hW, hsame.mono (by decide) (by decide)⟩
          · show Steps p.tables e below (s₁.setTop (mkF m 29 #[.val (.int p1)] [(.int (0 : Int32))])) _
            exact retN X0 hx (t := .boolean) Bd.returns (by simp) (hb hby own_d1_29) hr
          · show own_Q1 Z p1 h0 n0 _ s₁.heap _
            rw [e0]
            exact ⟨congrArg (fun z => some (Value.int z)) (show (0 : Int32) = (own_W p1) from own_W0 (by simp only [own_lt, own_eq, Int32.reduceToInt] at hc3 hc9 hc15 hc21; omega)), N0, rfl⟩
theorem own_d2_0 : decode method_2_code 0 = .ok (.iload_n 0, 1) := by decide +kernel
theorem own_d2_1 : decode method_2_code 1 = .ok (.bipush 32, 2) := by decide +kernel
theorem own_d2_3 : decode method_2_code 3 = .ok (.if_icmp .ne 5, 3) := by decide +kernel
theorem own_d2_6 : decode method_2_code 6 = .ok (.iconst 1, 1) := by decide +kernel
theorem own_d2_7 : decode method_2_code 7 = .ok (.ireturn, 1) := by decide +kernel
theorem own_d2_8 : decode method_2_code 8 = .ok (.iload_n 0, 1) := by decide +kernel
theorem own_d2_9 : decode method_2_code 9 = .ok (.bipush 9, 2) := by decide +kernel
theorem own_d2_11 : decode method_2_code 11 = .ok (.if_icmp .lt 9, 3) := by decide +kernel
theorem own_d2_14 : decode method_2_code 14 = .ok (.iload_n 0, 1) := by decide +kernel
theorem own_d2_15 : decode method_2_code 15 = .ok (.bipush 13, 2) := by decide +kernel
theorem own_d2_17 : decode method_2_code 17 = .ok (.if_icmp .le 5, 3) := by decide +kernel
theorem own_d2_20 : decode method_2_code 20 = .ok (.iconst 0, 1) := by decide +kernel
theorem own_d2_21 : decode method_2_code 21 = .ok (.ireturn, 1) := by decide +kernel
theorem own_d2_22 : decode method_2_code 22 = .ok (.iload_n 0, 1) := by decide +kernel
theorem own_d2_23 : decode method_2_code 23 = .ok (.bipush 11, 2) := by decide +kernel
theorem own_d2_25 : decode method_2_code 25 = .ok (.if_icmp .eq 13, 3) := by decide +kernel
theorem own_d2_28 : decode method_2_code 28 = .ok (.iload_n 0, 1) := by decide +kernel
theorem own_d2_29 : decode method_2_code 29 = .ok (.bipush 12, 2) := by decide +kernel
theorem own_d2_31 : decode method_2_code 31 = .ok (.if_icmp .eq 7, 3) := by decide +kernel
theorem own_d2_34 : decode method_2_code 34 = .ok (.iconst 1, 1) := by decide +kernel
theorem own_d2_35 : decode method_2_code 35 = .ok (.goto 4, 3) := by decide +kernel
theorem own_d2_38 : decode method_2_code 38 = .ok (.iconst 0, 1) := by decide +kernel
theorem own_d2_39 : decode method_2_code 39 = .ok (.ireturn, 1) := by decide +kernel
theorem own_ef2 (m : MethodId) (x0 : Int32) : entryFrame m #[(.int x0)] 1 = mkF m 0 #[.val (.int x0)] [] := by first | (simp [entryFrame, mkF, argsToLocals, Value.category]; done) | rfl
def own_Q2 (Z : State) (p1 : Int32) (h0 : Heap) (n0 : Nat) (v : Option Value) (h : Heap) (L : List Loc) : Prop := v = some (.int (own_W p1)) ∧ Fr n0 L ∧ h = h0
set_option maxRecDepth 65536 in
set_option maxHeartbeats 40000000 in
theorem rm2 (l : Launch) (Z : State) (a0 : Array Value) (hw : ∀ d ∈ tables_1, d.before a0 Z = true) (ws : List Jvm.Cond) (p1 : Int32) (h0 : Heap) (n0 : Nat) (Z0 : n0 ≤ h0.size)  :
    MetFree l (⟨"com/example/kennet/kennet/xdm/CharactersIsWhitespacePinLaw", "expected", "(I)Z"⟩ : MethodName) (head1 (Jvm.Cond.code (⟨"com/example/kennet/kennet/xdm/CharactersIsWhitespacePinLaw", "expected", "(I)Z"⟩ : MethodName) method_2_code 1 (some .boolean) :: ws) ({ frames := 0, cells := 0, slots := 0, locals := 0 } : Room)) (fun a U => a = #[(.int p1)] ∧ Z.Warmed39 U.vm ∧ U.heap = h0) (fun _ _ _ _ _ => True) (fun _ U o U' => ∃ v L, o = .returned v ∧ own_Q2 Z p1 h0 n0 v U'.heap L ∧ FrameEnd U o U' L ({ frames := 0, cells := 0, slots := 0, locals := 0 } : Room).cells ({ frames := 0, cells := 0, slots := 0, locals := 0 } : Room).slots) := by
  refine MetFree.of_bodySF (plainFor_of_name own_pn2) hisR ?_
  intro p e s m args below meth c s₁ Bd hml0 hP hK
  obtain ⟨rfl, hZ, hh⟩ := hP
  have hx := Bd.exec
  have hby := Bd.bytes
  have hml : c.maxLocals = 1 := hml0
  have hown : s.vm.findClass "com/example/kennet/kennet/xdm/CharactersIsWhitespacePinLaw" = some m.cls := findClass_of_methodNamed Bd.named
  have hnm := (name_of_methodNamed Bd.named Bd.method).1
  have X0 : Stand p l e ({ frames := 0, cells := 0, slots := 0, locals := 0 } : Room) s m #[(.int p1)] below meth c s₁ [] 0 0 := Stand.of_body Bd
  have e0 : s₁.heap = h0 := by rw [← hh, Bd.state]; rfl
  have N0 := Fr.nil n0
  have pre0 : ∀ t, Steps p.tables e below (s₁.setTop (mkF m 0 #[.val (.int p1)] [])) t → Steps p.tables e below (s₁.setTop (entryFrame m #[(.int p1)] 1)) t := fun t k => castTop (own_ef2 m p1) k
  have pre1 : ∀ t, Steps p.tables e below (s₁.setTop (mkF m 3 #[.val (.int p1)] [(.int (32 : Int32)), (.int p1)])) t → Steps p.tables e below (s₁.setTop (entryFrame m #[(.int p1)] 1)) t := by
    intro t k
    refine pre0 _ ?_
    show Steps p.tables e below (s₁.setTop (mkF m 0 #[.val (.int p1)] [])) _
    refine XS.iloadN X0.here hx rfl (hb hby own_d2_0) rfl ?_
    show Steps p.tables e below (s₁.setTop (mkF m 1 #[.val (.int p1)] [(.int p1)])) _
    refine XS.bipush X0.here hx rfl (hb hby own_d2_1) ?_
    exact k
  by_cases hc3 : p1 = (32 : Int32)
  · -- hc3 
    have pre2 : ∀ t, Steps p.tables e below (s₁.setTop (mkF m 7 #[.val (.int p1)] [(.int (1 : Int32))])) t → Steps p.tables e below (s₁.setTop (entryFrame m #[(.int p1)] 1)) t := by
      intro t k
      refine pre1 _ ?_
      show Steps p.tables e below (s₁.setTop (mkF m 3 #[.val (.int p1)] [(.int (32 : Int32)), (.int p1)])) _
      refine XS.icmpNo X0.here hx rfl (hb hby own_d2_3) rfl (teq hc3).2 ?_
      show Steps p.tables e below (s₁.setTop (mkF m 6 #[.val (.int p1)] [])) _
      refine XS.iconst X0.here hx rfl (hb hby own_d2_6) ?_
      exact k
    obtain ⟨fs, hr, hrun, hended, hW, hsame⟩ := X0.leave (v := some (.int (1 : Int32))) (fun h => by rw [Bd.returns] at h; cases h)
    refine ⟨_, _, pre2 _ ?_, hrun, hended, _, _, rfl, ?_, ⟨_, rfl⟩, hW, hsame.mono (by decide) (by decide)⟩
    · show Steps p.tables e below (s₁.setTop (mkF m 7 #[.val (.int p1)] [(.int (1 : Int32))])) _
      exact retN X0 hx (t := .boolean) Bd.returns (by simp) (hb hby own_d2_7) hr
    · show own_Q2 Z p1 h0 n0 _ s₁.heap _
      rw [e0]
      exact ⟨congrArg (fun z => some (Value.int z)) (show (1 : Int32) = (own_W p1) from own_W1 (by simp only [own_lt, own_eq, Int32.reduceToInt] at hc3; omega)), N0, rfl⟩
  · -- hc3 not
    have pre3 : ∀ t, Steps p.tables e below (s₁.setTop (mkF m 11 #[.val (.int p1)] [(.int (9 : Int32)), (.int p1)])) t → Steps p.tables e below (s₁.setTop (entryFrame m #[(.int p1)] 1)) t := by
      intro t k
      refine pre1 _ ?_
      show Steps p.tables e below (s₁.setTop (mkF m 3 #[.val (.int p1)] [(.int (32 : Int32)), (.int p1)])) _
      refine XS.icmpYes X0.here hx rfl (pc0 := 3) (pc' := 8) rfl (hb hby own_d2_3) rfl (feq hc3).2 (by decide) (by decide) ?_
      show Steps p.tables e below (s₁.setTop (mkF m 8 #[.val (.int p1)] [])) _
      refine XS.iloadN X0.here hx rfl (hb hby own_d2_8) rfl ?_
      show Steps p.tables e below (s₁.setTop (mkF m 9 #[.val (.int p1)] [(.int p1)])) _
      refine XS.bipush X0.here hx rfl (hb hby own_d2_9) ?_
      exact k
    by_cases hc11 : p1 < (9 : Int32)
    · -- hc11 
      have pre4 : ∀ t, Steps p.tables e below (s₁.setTop (mkF m 21 #[.val (.int p1)] [(.int (0 : Int32))])) t → Steps p.tables e below (s₁.setTop (entryFrame m #[(.int p1)] 1)) t := by
        intro t k
        refine pre3 _ ?_
        show Steps p.tables e below (s₁.setTop (mkF m 11 #[.val (.int p1)] [(.int (9 : Int32)), (.int p1)])) _
        refine XS.icmpYes X0.here hx rfl (pc0 := 11) (pc' := 20) rfl (hb hby own_d2_11) rfl (tlt hc11).1 (by decide) (by decide) ?_
        show Steps p.tables e below (s₁.setTop (mkF m 20 #[.val (.int p1)] [])) _
        refine XS.iconst X0.here hx rfl (hb hby own_d2_20) ?_
        exact k
      obtain ⟨fs, hr, hrun, hended, hW, hsame⟩ := X0.leave (v := some (.int (0 : Int32))) (fun h => by rw [Bd.returns] at h; cases h)
      refine ⟨_, _, pre4 _ ?_, hrun, hended, _, _, rfl, ?_, ⟨_, rfl⟩, hW, hsame.mono (by decide) (by decide)⟩
      · show Steps p.tables e below (s₁.setTop (mkF m 21 #[.val (.int p1)] [(.int (0 : Int32))])) _
        exact retN X0 hx (t := .boolean) Bd.returns (by simp) (hb hby own_d2_21) hr
      · show own_Q2 Z p1 h0 n0 _ s₁.heap _
        rw [e0]
        exact ⟨congrArg (fun z => some (Value.int z)) (show (0 : Int32) = (own_W p1) from own_W0 (by simp only [own_lt, own_eq, Int32.reduceToInt] at hc3 hc11; omega)), N0, rfl⟩
    · -- hc11 not
      have pre5 : ∀ t, Steps p.tables e below (s₁.setTop (mkF m 17 #[.val (.int p1)] [(.int (13 : Int32)), (.int p1)])) t → Steps p.tables e below (s₁.setTop (entryFrame m #[(.int p1)] 1)) t := by
        intro t k
        refine pre3 _ ?_
        show Steps p.tables e below (s₁.setTop (mkF m 11 #[.val (.int p1)] [(.int (9 : Int32)), (.int p1)])) _
        refine XS.icmpNo X0.here hx rfl (hb hby own_d2_11) rfl (flt hc11).1 ?_
        show Steps p.tables e below (s₁.setTop (mkF m 14 #[.val (.int p1)] [])) _
        refine XS.iloadN X0.here hx rfl (hb hby own_d2_14) rfl ?_
        show Steps p.tables e below (s₁.setTop (mkF m 15 #[.val (.int p1)] [(.int p1)])) _
        refine XS.bipush X0.here hx rfl (hb hby own_d2_15) ?_
        exact k
      by_cases hc17 : (13 : Int32) < p1
      · -- hc17 
        have pre6 : ∀ t, Steps p.tables e below (s₁.setTop (mkF m 21 #[.val (.int p1)] [(.int (0 : Int32))])) t → Steps p.tables e below (s₁.setTop (entryFrame m #[(.int p1)] 1)) t := by
          intro t k
          refine pre5 _ ?_
          show Steps p.tables e below (s₁.setTop (mkF m 17 #[.val (.int p1)] [(.int (13 : Int32)), (.int p1)])) _
          refine XS.icmpNo X0.here hx rfl (hb hby own_d2_17) rfl (tlt hc17).2.2.2 ?_
          show Steps p.tables e below (s₁.setTop (mkF m 20 #[.val (.int p1)] [])) _
          refine XS.iconst X0.here hx rfl (hb hby own_d2_20) ?_
          exact k
        obtain ⟨fs, hr, hrun, hended, hW, hsame⟩ := X0.leave (v := some (.int (0 : Int32))) (fun h => by rw [Bd.returns] at h; cases h)
        refine ⟨_, _, pre6 _ ?_, hrun, hended, _, _, rfl, ?_, ⟨_, rfl⟩, hW, hsame.mono (by decide) (by decide)⟩
        · show Steps p.tables e below (s₁.setTop (mkF m 21 #[.val (.int p1)] [(.int (0 : Int32))])) _
          exact retN X0 hx (t := .boolean) Bd.returns (by simp) (hb hby own_d2_21) hr
        · show own_Q2 Z p1 h0 n0 _ s₁.heap _
          rw [e0]
          exact ⟨congrArg (fun z => some (Value.int z)) (show (0 : Int32) = (own_W p1) from own_W0 (by simp only [own_lt, own_eq, Int32.reduceToInt] at hc3 hc11 hc17; omega)), N0, rfl⟩
      · -- hc17 not
        have pre7 : ∀ t, Steps p.tables e below (s₁.setTop (mkF m 25 #[.val (.int p1)] [(.int (11 : Int32)), (.int p1)])) t → Steps p.tables e below (s₁.setTop (entryFrame m #[(.int p1)] 1)) t := by
          intro t k
          refine pre5 _ ?_
          show Steps p.tables e below (s₁.setTop (mkF m 17 #[.val (.int p1)] [(.int (13 : Int32)), (.int p1)])) _
          refine XS.icmpYes X0.here hx rfl (pc0 := 17) (pc' := 22) rfl (hb hby own_d2_17) rfl (flt hc17).2.2.2 (by decide) (by decide) ?_
          show Steps p.tables e below (s₁.setTop (mkF m 22 #[.val (.int p1)] [])) _
          refine XS.iloadN X0.here hx rfl (hb hby own_d2_22) rfl ?_
          show Steps p.tables e below (s₁.setTop (mkF m 23 #[.val (.int p1)] [(.int p1)])) _
          refine XS.bipush X0.here hx rfl (hb hby own_d2_23) ?_
          exact k
        by_cases hc25 : p1 = (11 : Int32)
        · -- hc25 
          have pre8 : ∀ t, Steps p.tables e below (s₁.setTop (mkF m 39 #[.val (.int p1)] [(.int (0 : Int32))])) t → Steps p.tables e below (s₁.setTop (entryFrame m #[(.int p1)] 1)) t := by
            intro t k
            refine pre7 _ ?_
            show Steps p.tables e below (s₁.setTop (mkF m 25 #[.val (.int p1)] [(.int (11 : Int32)), (.int p1)])) _
            refine XS.icmpYes X0.here hx rfl (pc0 := 25) (pc' := 38) rfl (hb hby own_d2_25) rfl (teq hc25).1 (by decide) (by decide) ?_
            show Steps p.tables e below (s₁.setTop (mkF m 38 #[.val (.int p1)] [])) _
            refine XS.iconst X0.here hx rfl (hb hby own_d2_38) ?_
            exact k
          obtain ⟨fs, hr, hrun, hended, hW, hsame⟩ := X0.leave (v := some (.int (0 : Int32))) (fun h => by rw [Bd.returns] at h; cases h)
          refine ⟨_, _, pre8 _ ?_, hrun, hended, _, _, rfl, ?_, ⟨_, rfl⟩, hW, hsame.mono (by decide) (by decide)⟩
          · show Steps p.tables e below (s₁.setTop (mkF m 39 #[.val (.int p1)] [(.int (0 : Int32))])) _
            exact retN X0 hx (t := .boolean) Bd.returns (by simp) (hb hby own_d2_39) hr
          · show own_Q2 Z p1 h0 n0 _ s₁.heap _
            rw [e0]
            exact ⟨congrArg (fun z => some (Value.int z)) (show (0 : Int32) = (own_W p1) from own_W0 (by simp only [own_lt, own_eq, Int32.reduceToInt] at hc3 hc11 hc17 hc25; omega)), N0, rfl⟩
        · -- hc25 not
          have pre9 : ∀ t, Steps p.tables e below (s₁.setTop (mkF m 31 #[.val (.int p1)] [(.int (12 : Int32)), (.int p1)])) t → Steps p.tables e below (s₁.setTop (entryFrame m #[(.int p1)] 1)) t := by
            intro t k
            refine pre7 _ ?_
            show Steps p.tables e below (s₁.setTop (mkF m 25 #[.val (.int p1)] [(.int (11 : Int32)), (.int p1)])) _
            refine XS.icmpNo X0.here hx rfl (hb hby own_d2_25) rfl (feq hc25).1 ?_
            show Steps p.tables e below (s₁.setTop (mkF m 28 #[.val (.int p1)] [])) _
            refine XS.iloadN X0.here hx rfl (hb hby own_d2_28) rfl ?_
            show Steps p.tables e below (s₁.setTop (mkF m 29 #[.val (.int p1)] [(.int p1)])) _
            refine XS.bipush X0.here hx rfl (hb hby own_d2_29) ?_
            exact k
          by_cases hc31 : p1 = (12 : Int32)
          · -- hc31 
            have pre10 : ∀ t, Steps p.tables e below (s₁.setTop (mkF m 39 #[.val (.int p1)] [(.int (0 : Int32))])) t → Steps p.tables e below (s₁.setTop (entryFrame m #[(.int p1)] 1)) t := by
              intro t k
              refine pre9 _ ?_
              show Steps p.tables e below (s₁.setTop (mkF m 31 #[.val (.int p1)] [(.int (12 : Int32)), (.int p1)])) _
              refine XS.icmpYes X0.here hx rfl (pc0 := 31) (pc' := 38) rfl (hb hby own_d2_31) rfl (teq hc31).1 (by decide) (by decide) ?_
              show Steps p.tables e below (s₁.setTop (mkF m 38 #[.val (.int p1)] [])) _
              refine XS.iconst X0.here hx rfl (hb hby own_d2_38) ?_
              exact k
            obtain ⟨fs, hr, hrun, hended, hW, hsame⟩ := X0.leave (v := some (.int (0 : Int32))) (fun h => by rw [Bd.returns] at h; cases h)
            refine ⟨_, _, pre10 _ ?_, hrun, hended, _, _, rfl, ?_, ⟨_, rfl⟩, hW, hsame.mono (by decide) (by decide)⟩
            · show Steps p.tables e below (s₁.setTop (mkF m 39 #[.val (.int p1)] [(.int (0 : Int32))])) _
              exact retN X0 hx (t := .boolean) Bd.returns (by simp) (hb hby own_d2_39) hr
            · show own_Q2 Z p1 h0 n0 _ s₁.heap _
              rw [e0]
              exact ⟨congrArg (fun z => some (Value.int z)) (show (0 : Int32) = (own_W p1) from own_W0 (by simp only [own_lt, own_eq, Int32.reduceToInt] at hc3 hc11 hc17 hc25 hc31; omega)), N0, rfl⟩
          · -- hc31 not
            have pre11 : ∀ t, Steps p.tables e below (s₁.setTop (mkF m 39 #[.val (.int p1)] [(.int (1 : Int32))])) t → Steps p.tables e below (s₁.setTop (entryFrame m #[(.int p1)] 1)) t := by
              intro t k
              refine pre9 _ ?_
              show Steps p.tables e below (s₁.setTop (mkF m 31 #[.val (.int p1)] [(.int (12 : Int32)), (.int p1)])) _
              refine XS.icmpNo X0.here hx rfl (hb hby own_d2_31) rfl (feq hc31).1 ?_
              show Steps p.tables e below (s₁.setTop (mkF m 34 #[.val (.int p1)] [])) _
              refine XS.iconst X0.here hx rfl (hb hby own_d2_34) ?_
              show Steps p.tables e below (s₁.setTop (mkF m 35 #[.val (.int p1)] [(.int (1 : Int32))])) _
              refine XS.goto X0.here hx rfl (pc0 := 35) (pc' := 39) rfl (hb hby own_d2_35) (by decide) (by decide) ?_
              exact k
            obtain ⟨fs, hr, hrun, hended, hW, hsame⟩ := X0.leave (v := some (.int (1 : Int32))) (fun h => by rw [Bd.returns] at h; cases h)
            refine ⟨_, _, pre11 _ ?_, hrun, hended, _, _, rfl, ?_, ⟨_, rfl⟩, hW, hsame.mono (by decide) (by decide)⟩
            · show Steps p.tables e below (s₁.setTop (mkF m 39 #[.val (.int p1)] [(.int (1 : Int32))])) _
              exact retN X0 hx (t := .boolean) Bd.returns (by simp) (hb hby own_d2_39) hr
            · show own_Q2 Z p1 h0 n0 _ s₁.heap _
              rw [e0]
              exact ⟨congrArg (fun z => some (Value.int z)) (show (1 : Int32) = (own_W p1) from own_W1 (by simp only [own_lt, own_eq, Int32.reduceToInt] at hc3 hc11 hc17 hc25 hc31; omega)), N0, rfl⟩
theorem own_ef0 (m : MethodId) (x0 : Int32) (x1 : Int32) : entryFrame m #[(.int x0), (.int x1)] maxLocals = mkF m 0 #[.val (.int x0), .val (.int x1), .unset, .unset, .unset, .unset] [] := by first | (simp [entryFrame, mkF, argsToLocals, Value.category, maxLocals]; done) | rfl
def own_Q0 (Z : State) (p1 : Int32) (p2 : Int32) (h0 : Heap) (n0 : Nat) (v : Option Value) (h : Heap) (L : List Loc) : Prop := v = some (.int (1 : Int32)) ∧ Fr n0 L
set_option maxRecDepth 65536 in
set_option maxHeartbeats 40000000 in
theorem rm0 (l : Launch) (Z : State) (a0 : Array Value) (hw : ∀ d ∈ tables_1, d.before a0 Z = true) (ws : List Jvm.Cond) (p1 : Int32) (p2 : Int32) (h0 : Heap) (n0 : Nat) (Z0 : n0 ≤ h0.size)  :
    MetFree l x (head1 (Jvm.Cond.code x code maxLocals ret :: ws) room_1) (fun a U => a = #[(.int p1), (.int p2)] ∧ Z.Warmed39 U.vm ∧ U.heap = h0) (fun _ _ _ _ _ => True) (fun _ U o U' => ∃ v L, o = .returned v ∧ own_Q0 Z p1 p2 h0 n0 v U'.heap L ∧ FrameEnd U o U' L room_1.cells room_1.slots) := by
  refine MetFree.of_bodySF (plainFor_of_name own_pn0) hisR ?_
  intro p e s m args below meth c s₁ Bd hml0 hP hK
  obtain ⟨rfl, hZ, hh⟩ := hP
  have hx := Bd.exec
  have hby := Bd.bytes
  have hml : c.maxLocals = 6 := hml0
  have hown : s.vm.findClass "com/example/kennet/kennet/xdm/CharactersIsWhitespacePinLaw" = some m.cls := findClass_of_methodNamed Bd.named
  have hnm := (name_of_methodNamed Bd.named Bd.method).1
  have X0 : Stand p l e room_1 s m #[(.int p1), (.int p2)] below meth c s₁ [] 0 0 := Stand.of_body Bd
  have e0 : s₁.heap = h0 := by rw [← hh, Bd.state]; rfl
  have N0 := Fr.nil n0
  have pre0 : ∀ t, Steps p.tables e below (s₁.setTop (mkF m 0 #[.val (.int p1), .val (.int p2), .unset, .unset, .unset, .unset] [])) t → Steps p.tables e below (s₁.setTop (entryFrame m #[(.int p1), (.int p2)] maxLocals)) t := fun t k => castTop (own_ef0 m p1 p2) k
  obtain ⟨T1, h1, k1, X1, e1, E1, A1, st1⟩ := newP X0 hx hZ (hw _ (List.mem_of_getElem? (i := 0) rfl)) e0 (g := (mkF m 2 #[.val (.int p1), .val (.int p2), .unset, .unset, .unset, .unset] [(.int (16 : Int32))])) rfl (hb hby at_2) rfl (by decide) (cap := 16) (by decide) (by decide) (by decide) (by decide)
  obtain ⟨b1, g1⟩ : ∃ z, z = h0.size := ⟨_, rfl⟩
  rw [← g1] at A1 st1
  have g_b1 : n0 ≤ b1 := Nat.le_trans Z0 (Nat.le_of_eq g1.symm)
  have Z1 : n0 ≤ h1.size := Nat.le_trans Z0 E1.1
  have V_b1 : Arv Z h1 b1 k1 .int (16 : Int32) [(.int (0 : Int32)), (.int (0 : Int32)), (.int (0 : Int32)), (.int (0 : Int32)), (.int (0 : Int32)), (.int (0 : Int32)), (.int (0 : Int32)), (.int (0 : Int32)), (.int (0 : Int32)), (.int (0 : Int32)), (.int (0 : Int32)), (.int (0 : Int32)), (.int (0 : Int32)), (.int (0 : Int32)), (.int (0 : Int32)), (.int (0 : Int32))] (.int (0 : Int32)) := (Arv.new A1 (by decide)).pad (pad_rep [] (.int (0 : Int32)) 16)
  obtain ⟨cl_b1, Ar_b1, q_b1, S_b1, N_b1, H_b1, G_b1⟩ := V_b1
  have hin8 : ¬ ((0 : Int32) < 0 ∨ cl_b1.slots.size ≤ ((0 : Int32)).toNatClampNeg) := inb_of S_b1 ⟨by decide, by decide⟩
  obtain ⟨T2, h2, X2, e2, W2, st2⟩ := stI X1 hx hZ e1 Ar_b1 (j := (0 : Int32)) hin8 (g := (mkF m 8 #[.val (.int p1), .val (.int p2), .unset, .unset, .unset, .unset] [(.int (8 : Int32)), (.int (0 : Int32)), (.ref b1), (.ref b1)])) rfl rfl (hb hby at_8)
  have Z2 : n0 ≤ h2.size := Nat.le_trans Z1 (Keep.of_wr W2).1
  have N2 := Fr.snoc X2 N0 g_b1
  have V_b1 : Arv Z h2 b1 k1 .int (16 : Int32) [(.int (8 : Int32)), (.int (0 : Int32)), (.int (0 : Int32)), (.int (0 : Int32)), (.int (0 : Int32)), (.int (0 : Int32)), (.int (0 : Int32)), (.int (0 : Int32)), (.int (0 : Int32)), (.int (0 : Int32)), (.int (0 : Int32)), (.int (0 : Int32)), (.int (0 : Int32)), (.int (0 : Int32)), (.int (0 : Int32)), (.int (0 : Int32))] (.int (0 : Int32)) := Arv.set Ar_b1 q_b1 S_b1 N_b1 H_b1 G_b1 rfl W2 0 rfl (Nat.le_of_ble_eq_true rfl)
  obtain ⟨cl_b1, Ar_b1, q_b1, S_b1, N_b1, H_b1, G_b1⟩ := V_b1
  have hin13 : ¬ ((1 : Int32) < 0 ∨ cl_b1.slots.size ≤ ((1 : Int32)).toNatClampNeg) := inb_of S_b1 ⟨by decide, by decide⟩
  obtain ⟨T3, h3, X3, e3, W3, st3⟩ := stI X2 hx hZ e2 Ar_b1 (j := (1 : Int32)) hin13 (g := (mkF m 13 #[.val (.int p1), .val (.int p2), .unset, .unset, .unset, .unset] [(.int (9 : Int32)), (.int (1 : Int32)), (.ref b1), (.ref b1)])) rfl rfl (hb hby at_13)
  have Z3 : n0 ≤ h3.size := Nat.le_trans Z2 (Keep.of_wr W3).1
  have N3 := Fr.snoc X3 N2 g_b1
  have V_b1 : Arv Z h3 b1 k1 .int (16 : Int32) [(.int (8 : Int32)), (.int (9 : Int32)), (.int (0 : Int32)), (.int (0 : Int32)), (.int (0 : Int32)), (.int (0 : Int32)), (.int (0 : Int32)), (.int (0 : Int32)), (.int (0 : Int32)), (.int (0 : Int32)), (.int (0 : Int32)), (.int (0 : Int32)), (.int (0 : Int32)), (.int (0 : Int32)), (.int (0 : Int32)), (.int (0 : Int32))] (.int (0 : Int32)) := Arv.set Ar_b1 q_b1 S_b1 N_b1 H_b1 G_b1 rfl W3 1 rfl (Nat.le_of_ble_eq_true rfl)
  obtain ⟨cl_b1, Ar_b1, q_b1, S_b1, N_b1, H_b1, G_b1⟩ := V_b1
  have hin18 : ¬ ((2 : Int32) < 0 ∨ cl_b1.slots.size ≤ ((2 : Int32)).toNatClampNeg) := inb_of S_b1 ⟨by decide, by decide⟩
  obtain ⟨T4, h4, X4, e4, W4, st4⟩ := stI X3 hx hZ e3 Ar_b1 (j := (2 : Int32)) hin18 (g := (mkF m 18 #[.val (.int p1), .val (.int p2), .unset, .unset, .unset, .unset] [(.int (10 : Int32)), (.int (2 : Int32)), (.ref b1), (.ref b1)])) rfl rfl (hb hby at_18)
  have Z4 : n0 ≤ h4.size := Nat.le_trans Z3 (Keep.of_wr W4).1
  have N4 := Fr.snoc X4 N3 g_b1
  have V_b1 : Arv Z h4 b1 k1 .int (16 : Int32) [(.int (8 : Int32)), (.int (9 : Int32)), (.int (10 : Int32)), (.int (0 : Int32)), (.int (0 : Int32)), (.int (0 : Int32)), (.int (0 : Int32)), (.int (0 : Int32)), (.int (0 : Int32)), (.int (0 : Int32)), (.int (0 : Int32)), (.int (0 : Int32)), (.int (0 : Int32)), (.int (0 : Int32)), (.int (0 : Int32)), (.int (0 : Int32))] (.int (0 : Int32)) := Arv.set Ar_b1 q_b1 S_b1 N_b1 H_b1 G_b1 rfl W4 2 rfl (Nat.le_of_ble_eq_true rfl)
  obtain ⟨cl_b1, Ar_b1, q_b1, S_b1, N_b1, H_b1, G_b1⟩ := V_b1
  have hin23 : ¬ ((3 : Int32) < 0 ∨ cl_b1.slots.size ≤ ((3 : Int32)).toNatClampNeg) := inb_of S_b1 ⟨by decide, by decide⟩
  obtain ⟨T5, h5, X5, e5, W5, st5⟩ := stI X4 hx hZ e4 Ar_b1 (j := (3 : Int32)) hin23 (g := (mkF m 23 #[.val (.int p1), .val (.int p2), .unset, .unset, .unset, .unset] [(.int (11 : Int32)), (.int (3 : Int32)), (.ref b1), (.ref b1)])) rfl rfl (hb hby at_23)
  have Z5 : n0 ≤ h5.size := Nat.le_trans Z4 (Keep.of_wr W5).1
  have N5 := Fr.snoc X5 N4 g_b1
  have V_b1 : Arv Z h5 b1 k1 .int (16 : Int32) [(.int (8 : Int32)), (.int (9 : Int32)), (.int (10 : Int32)), (.int (11 : Int32)), (.int (0 : Int32)), (.int (0 : Int32)), (.int (0 : Int32)), (.int (0 : Int32)), (.int (0 : Int32)), (.int (0 : Int32)), (.int (0 : Int32)), (.int (0 : Int32)), (.int (0 : Int32)), (.int (0 : Int32)), (.int (0 : Int32)), (.int (0 : Int32))] (.int (0 : Int32)) := Arv.set Ar_b1 q_b1 S_b1 N_b1 H_b1 G_b1 rfl W5 3 rfl (Nat.le_of_ble_eq_true rfl)
  obtain ⟨cl_b1, Ar_b1, q_b1, S_b1, N_b1, H_b1, G_b1⟩ := V_b1
  have hin28 : ¬ ((4 : Int32) < 0 ∨ cl_b1.slots.size ≤ ((4 : Int32)).toNatClampNeg) := inb_of S_b1 ⟨by decide, by decide⟩
  obtain ⟨T6, h6, X6, e6, W6, st6⟩ := stI X5 hx hZ e5 Ar_b1 (j := (4 : Int32)) hin28 (g := (mkF m 28 #[.val (.int p1), .val (.int p2), .unset, .unset, .unset, .unset] [(.int (12 : Int32)), (.int (4 : Int32)), (.ref b1), (.ref b1)])) rfl rfl (hb hby at_28)
  have Z6 : n0 ≤ h6.size := Nat.le_trans Z5 (Keep.of_wr W6).1
  have N6 := Fr.snoc X6 N5 g_b1
  have V_b1 : Arv Z h6 b1 k1 .int (16 : Int32) [(.int (8 : Int32)), (.int (9 : Int32)), (.int (10 : Int32)), (.int (11 : Int32)), (.int (12 : Int32)), (.int (0 : Int32)), (.int (0 : Int32)), (.int (0 : Int32)), (.int (0 : Int32)), (.int (0 : Int32)), (.int (0 : Int32)), (.int (0 : Int32)), (.int (0 : Int32)), (.int (0 : Int32)), (.int (0 : Int32)), (.int (0 : Int32))] (.int (0 : Int32)) := Arv.set Ar_b1 q_b1 S_b1 N_b1 H_b1 G_b1 rfl W6 4 rfl (Nat.le_of_ble_eq_true rfl)
  obtain ⟨cl_b1, Ar_b1, q_b1, S_b1, N_b1, H_b1, G_b1⟩ := V_b1
  have hin33 : ¬ ((5 : Int32) < 0 ∨ cl_b1.slots.size ≤ ((5 : Int32)).toNatClampNeg) := inb_of S_b1 ⟨by decide, by decide⟩
  obtain ⟨T7, h7, X7, e7, W7, st7⟩ := stI X6 hx hZ e6 Ar_b1 (j := (5 : Int32)) hin33 (g := (mkF m 33 #[.val (.int p1), .val (.int p2), .unset, .unset, .unset, .unset] [(.int (13 : Int32)), (.int (5 : Int32)), (.ref b1), (.ref b1)])) rfl rfl (hb hby at_33)
  have Z7 : n0 ≤ h7.size := Nat.le_trans Z6 (Keep.of_wr W7).1
  have N7 := Fr.snoc X7 N6 g_b1
  have V_b1 : Arv Z h7 b1 k1 .int (16 : Int32) [(.int (8 : Int32)), (.int (9 : Int32)), (.int (10 : Int32)), (.int (11 : Int32)), (.int (12 : Int32)), (.int (13 : Int32)), (.int (0 : Int32)), (.int (0 : Int32)), (.int (0 : Int32)), (.int (0 : Int32)), (.int (0 : Int32)), (.int (0 : Int32)), (.int (0 : Int32)), (.int (0 : Int32)), (.int (0 : Int32)), (.int (0 : Int32))] (.int (0 : Int32)) := Arv.set Ar_b1 q_b1 S_b1 N_b1 H_b1 G_b1 rfl W7 5 rfl (Nat.le_of_ble_eq_true rfl)
  obtain ⟨cl_b1, Ar_b1, q_b1, S_b1, N_b1, H_b1, G_b1⟩ := V_b1
  have hin39 : ¬ ((6 : Int32) < 0 ∨ cl_b1.slots.size ≤ ((6 : Int32)).toNatClampNeg) := inb_of S_b1 ⟨by decide, by decide⟩
  obtain ⟨T8, h8, X8, e8, W8, st8⟩ := stI X7 hx hZ e7 Ar_b1 (j := (6 : Int32)) hin39 (g := (mkF m 39 #[.val (.int p1), .val (.int p2), .unset, .unset, .unset, .unset] [(.int (14 : Int32)), (.int (6 : Int32)), (.ref b1), (.ref b1)])) rfl rfl (hb hby at_39)
  have Z8 : n0 ≤ h8.size := Nat.le_trans Z7 (Keep.of_wr W8).1
  have N8 := Fr.snoc X8 N7 g_b1
  have V_b1 : Arv Z h8 b1 k1 .int (16 : Int32) [(.int (8 : Int32)), (.int (9 : Int32)), (.int (10 : Int32)), (.int (11 : Int32)), (.int (12 : Int32)), (.int (13 : Int32)), (.int (14 : Int32)), (.int (0 : Int32)), (.int (0 : Int32)), (.int (0 : Int32)), (.int (0 : Int32)), (.int (0 : Int32)), (.int (0 : Int32)), (.int (0 : Int32)), (.int (0 : Int32)), (.int (0 : Int32))] (.int (0 : Int32)) := Arv.set Ar_b1 q_b1 S_b1 N_b1 H_b1 G_b1 rfl W8 6 rfl (Nat.le_of_ble_eq_true rfl)
  obtain ⟨cl_b1, Ar_b1, q_b1, S_b1, N_b1, H_b1, G_b1⟩ := V_b1
  have hin45 : ¬ ((7 : Int32) < 0 ∨ cl_b1.slots.size ≤ ((7 : Int32)).toNatClampNeg) := inb_of S_b1 ⟨by decide, by decide⟩
  obtain ⟨T9, h9, X9, e9, W9, st9⟩ := stI X8 hx hZ e8 Ar_b1 (j := (7 : Int32)) hin45 (g := (mkF m 45 #[.val (.int p1), .val (.int p2), .unset, .unset, .unset, .unset] [(.int (28 : Int32)), (.int (7 : Int32)), (.ref b1), (.ref b1)])) rfl rfl (hb hby at_45)
  have Z9 : n0 ≤ h9.size := Nat.le_trans Z8 (Keep.of_wr W9).1
  have N9 := Fr.snoc X9 N8 g_b1
  have V_b1 : Arv Z h9 b1 k1 .int (16 : Int32) [(.int (8 : Int32)), (.int (9 : Int32)), (.int (10 : Int32)), (.int (11 : Int32)), (.int (12 : Int32)), (.int (13 : Int32)), (.int (14 : Int32)), (.int (28 : Int32)), (.int (0 : Int32)), (.int (0 : Int32)), (.int (0 : Int32)), (.int (0 : Int32)), (.int (0 : Int32)), (.int (0 : Int32)), (.int (0 : Int32)), (.int (0 : Int32))] (.int (0 : Int32)) := Arv.set Ar_b1 q_b1 S_b1 N_b1 H_b1 G_b1 rfl W9 7 rfl (Nat.le_of_ble_eq_true rfl)
  obtain ⟨cl_b1, Ar_b1, q_b1, S_b1, N_b1, H_b1, G_b1⟩ := V_b1
  have hin51 : ¬ ((8 : Int32) < 0 ∨ cl_b1.slots.size ≤ ((8 : Int32)).toNatClampNeg) := inb_of S_b1 ⟨by decide, by decide⟩
  obtain ⟨T10, h10, X10, e10, W10, st10⟩ := stI X9 hx hZ e9 Ar_b1 (j := (8 : Int32)) hin51 (g := (mkF m 51 #[.val (.int p1), .val (.int p2), .unset, .unset, .unset, .unset] [(.int (32 : Int32)), (.int (8 : Int32)), (.ref b1), (.ref b1)])) rfl rfl (hb hby at_51)
  have Z10 : n0 ≤ h10.size := Nat.le_trans Z9 (Keep.of_wr W10).1
  have N10 := Fr.snoc X10 N9 g_b1
  have V_b1 : Arv Z h10 b1 k1 .int (16 : Int32) [(.int (8 : Int32)), (.int (9 : Int32)), (.int (10 : Int32)), (.int (11 : Int32)), (.int (12 : Int32)), (.int (13 : Int32)), (.int (14 : Int32)), (.int (28 : Int32)), (.int (32 : Int32)), (.int (0 : Int32)), (.int (0 : Int32)), (.int (0 : Int32)), (.int (0 : Int32)), (.int (0 : Int32)), (.int (0 : Int32)), (.int (0 : Int32))] (.int (0 : Int32)) := Arv.set Ar_b1 q_b1 S_b1 N_b1 H_b1 G_b1 rfl W10 8 rfl (Nat.le_of_ble_eq_true rfl)
  obtain ⟨cl_b1, Ar_b1, q_b1, S_b1, N_b1, H_b1, G_b1⟩ := V_b1
  have hin57 : ¬ ((9 : Int32) < 0 ∨ cl_b1.slots.size ≤ ((9 : Int32)).toNatClampNeg) := inb_of S_b1 ⟨by decide, by decide⟩
  obtain ⟨T11, h11, X11, e11, W11, st11⟩ := stI X10 hx hZ e10 Ar_b1 (j := (9 : Int32)) hin57 (g := (mkF m 57 #[.val (.int p1), .val (.int p2), .unset, .unset, .unset, .unset] [(.int (33 : Int32)), (.int (9 : Int32)), (.ref b1), (.ref b1)])) rfl rfl (hb hby at_57)
  have Z11 : n0 ≤ h11.size := Nat.le_trans Z10 (Keep.of_wr W11).1
  have N11 := Fr.snoc X11 N10 g_b1
  have V_b1 : Arv Z h11 b1 k1 .int (16 : Int32) [(.int (8 : Int32)), (.int (9 : Int32)), (.int (10 : Int32)), (.int (11 : Int32)), (.int (12 : Int32)), (.int (13 : Int32)), (.int (14 : Int32)), (.int (28 : Int32)), (.int (32 : Int32)), (.int (33 : Int32)), (.int (0 : Int32)), (.int (0 : Int32)), (.int (0 : Int32)), (.int (0 : Int32)), (.int (0 : Int32)), (.int (0 : Int32))] (.int (0 : Int32)) := Arv.set Ar_b1 q_b1 S_b1 N_b1 H_b1 G_b1 rfl W11 9 rfl (Nat.le_of_ble_eq_true rfl)
  obtain ⟨cl_b1, Ar_b1, q_b1, S_b1, N_b1, H_b1, G_b1⟩ := V_b1
  have hin64 : ¬ ((10 : Int32) < 0 ∨ cl_b1.slots.size ≤ ((10 : Int32)).toNatClampNeg) := inb_of S_b1 ⟨by decide, by decide⟩
  obtain ⟨T12, h12, X12, e12, W12, st12⟩ := stI X11 hx hZ e11 Ar_b1 (j := (10 : Int32)) hin64 (g := (mkF m 64 #[.val (.int p1), .val (.int p2), .unset, .unset, .unset, .unset] [(.int (133 : Int32)), (.int (10 : Int32)), (.ref b1), (.ref b1)])) rfl rfl (hb hby at_64)
  have Z12 : n0 ≤ h12.size := Nat.le_trans Z11 (Keep.of_wr W12).1
  have N12 := Fr.snoc X12 N11 g_b1
  have V_b1 : Arv Z h12 b1 k1 .int (16 : Int32) [(.int (8 : Int32)), (.int (9 : Int32)), (.int (10 : Int32)), (.int (11 : Int32)), (.int (12 : Int32)), (.int (13 : Int32)), (.int (14 : Int32)), (.int (28 : Int32)), (.int (32 : Int32)), (.int (33 : Int32)), (.int (133 : Int32)), (.int (0 : Int32)), (.int (0 : Int32)), (.int (0 : Int32)), (.int (0 : Int32)), (.int (0 : Int32))] (.int (0 : Int32)) := Arv.set Ar_b1 q_b1 S_b1 N_b1 H_b1 G_b1 rfl W12 10 rfl (Nat.le_of_ble_eq_true rfl)
  obtain ⟨cl_b1, Ar_b1, q_b1, S_b1, N_b1, H_b1, G_b1⟩ := V_b1
  have hin71 : ¬ ((11 : Int32) < 0 ∨ cl_b1.slots.size ≤ ((11 : Int32)).toNatClampNeg) := inb_of S_b1 ⟨by decide, by decide⟩
  obtain ⟨T13, h13, X13, e13, W13, st13⟩ := stI X12 hx hZ e12 Ar_b1 (j := (11 : Int32)) hin71 (g := (mkF m 71 #[.val (.int p1), .val (.int p2), .unset, .unset, .unset, .unset] [(.int (160 : Int32)), (.int (11 : Int32)), (.ref b1), (.ref b1)])) rfl rfl (hb hby at_71)
  have Z13 : n0 ≤ h13.size := Nat.le_trans Z12 (Keep.of_wr W13).1
  have N13 := Fr.snoc X13 N12 g_b1
  have V_b1 : Arv Z h13 b1 k1 .int (16 : Int32) [(.int (8 : Int32)), (.int (9 : Int32)), (.int (10 : Int32)), (.int (11 : Int32)), (.int (12 : Int32)), (.int (13 : Int32)), (.int (14 : Int32)), (.int (28 : Int32)), (.int (32 : Int32)), (.int (33 : Int32)), (.int (133 : Int32)), (.int (160 : Int32)), (.int (0 : Int32)), (.int (0 : Int32)), (.int (0 : Int32)), (.int (0 : Int32))] (.int (0 : Int32)) := Arv.set Ar_b1 q_b1 S_b1 N_b1 H_b1 G_b1 rfl W13 11 rfl (Nat.le_of_ble_eq_true rfl)
  obtain ⟨cl_b1, Ar_b1, q_b1, S_b1, N_b1, H_b1, G_b1⟩ := V_b1
  have hin77 : ¬ ((12 : Int32) < 0 ∨ cl_b1.slots.size ≤ ((12 : Int32)).toNatClampNeg) := inb_of S_b1 ⟨by decide, by decide⟩
  obtain ⟨T14, h14, X14, e14, W14, st14⟩ := stI X13 hx hZ e13 Ar_b1 (j := (12 : Int32)) hin77 (g := (mkF m 77 #[.val (.int p1), .val (.int p2), .unset, .unset, .unset, .unset] [(.int (65568 : Int32)), (.int (12 : Int32)), (.ref b1), (.ref b1)])) rfl rfl (hb hby at_77)
  have Z14 : n0 ≤ h14.size := Nat.le_trans Z13 (Keep.of_wr W14).1
  have N14 := Fr.snoc X14 N13 g_b1
  have V_b1 : Arv Z h14 b1 k1 .int (16 : Int32) [(.int (8 : Int32)), (.int (9 : Int32)), (.int (10 : Int32)), (.int (11 : Int32)), (.int (12 : Int32)), (.int (13 : Int32)), (.int (14 : Int32)), (.int (28 : Int32)), (.int (32 : Int32)), (.int (33 : Int32)), (.int (133 : Int32)), (.int (160 : Int32)), (.int (65568 : Int32)), (.int (0 : Int32)), (.int (0 : Int32)), (.int (0 : Int32))] (.int (0 : Int32)) := Arv.set Ar_b1 q_b1 S_b1 N_b1 H_b1 G_b1 rfl W14 12 rfl (Nat.le_of_ble_eq_true rfl)
  obtain ⟨cl_b1, Ar_b1, q_b1, S_b1, N_b1, H_b1, G_b1⟩ := V_b1
  have hin83 : ¬ ((13 : Int32) < 0 ∨ cl_b1.slots.size ≤ ((13 : Int32)).toNatClampNeg) := inb_of S_b1 ⟨by decide, by decide⟩
  obtain ⟨T15, h15, X15, e15, W15, st15⟩ := stI X14 hx hZ e14 Ar_b1 (j := (13 : Int32)) hin83 (g := (mkF m 83 #[.val (.int p1), .val (.int p2), .unset, .unset, .unset, .unset] [(.int (65546 : Int32)), (.int (13 : Int32)), (.ref b1), (.ref b1)])) rfl rfl (hb hby at_83)
  have Z15 : n0 ≤ h15.size := Nat.le_trans Z14 (Keep.of_wr W15).1
  have N15 := Fr.snoc X15 N14 g_b1
  have V_b1 : Arv Z h15 b1 k1 .int (16 : Int32) [(.int (8 : Int32)), (.int (9 : Int32)), (.int (10 : Int32)), (.int (11 : Int32)), (.int (12 : Int32)), (.int (13 : Int32)), (.int (14 : Int32)), (.int (28 : Int32)), (.int (32 : Int32)), (.int (33 : Int32)), (.int (133 : Int32)), (.int (160 : Int32)), (.int (65568 : Int32)), (.int (65546 : Int32)), (.int (0 : Int32)), (.int (0 : Int32))] (.int (0 : Int32)) := Arv.set Ar_b1 q_b1 S_b1 N_b1 H_b1 G_b1 rfl W15 13 rfl (Nat.le_of_ble_eq_true rfl)
  obtain ⟨cl_b1, Ar_b1, q_b1, S_b1, N_b1, H_b1, G_b1⟩ := V_b1
  have hin90 : ¬ ((14 : Int32) < 0 ∨ cl_b1.slots.size ≤ ((14 : Int32)).toNatClampNeg) := inb_of S_b1 ⟨by decide, by decide⟩
  obtain ⟨T16, h16, X16, e16, W16, st16⟩ := stI X15 hx hZ e15 Ar_b1 (j := (14 : Int32)) hin90 (g := (mkF m 90 #[.val (.int p1), .val (.int p2), .unset, .unset, .unset, .unset] [(.int (8232 : Int32)), (.int (14 : Int32)), (.ref b1), (.ref b1)])) rfl rfl (hb hby at_90)
  have Z16 : n0 ≤ h16.size := Nat.le_trans Z15 (Keep.of_wr W16).1
  have N16 := Fr.snoc X16 N15 g_b1
  have V_b1 : Arv Z h16 b1 k1 .int (16 : Int32) [(.int (8 : Int32)), (.int (9 : Int32)), (.int (10 : Int32)), (.int (11 : Int32)), (.int (12 : Int32)), (.int (13 : Int32)), (.int (14 : Int32)), (.int (28 : Int32)), (.int (32 : Int32)), (.int (33 : Int32)), (.int (133 : Int32)), (.int (160 : Int32)), (.int (65568 : Int32)), (.int (65546 : Int32)), (.int (8232 : Int32)), (.int (0 : Int32))] (.int (0 : Int32)) := Arv.set Ar_b1 q_b1 S_b1 N_b1 H_b1 G_b1 rfl W16 14 rfl (Nat.le_of_ble_eq_true rfl)
  obtain ⟨cl_b1, Ar_b1, q_b1, S_b1, N_b1, H_b1, G_b1⟩ := V_b1
  have hin95 : ¬ ((15 : Int32) < 0 ∨ cl_b1.slots.size ≤ ((15 : Int32)).toNatClampNeg) := inb_of S_b1 ⟨by decide, by decide⟩
  obtain ⟨T17, h17, X17, e17, W17, st17⟩ := stI X16 hx hZ e16 Ar_b1 (j := (15 : Int32)) hin95 (g := (mkF m 95 #[.val (.int p1), .val (.int p2), .unset, .unset, .unset, .unset] [(.int (-1 : Int32)), (.int (15 : Int32)), (.ref b1), (.ref b1)])) rfl rfl (hb hby at_95)
  have Z17 : n0 ≤ h17.size := Nat.le_trans Z16 (Keep.of_wr W17).1
  have N17 := Fr.snoc X17 N16 g_b1
  have V_b1 : Arv Z h17 b1 k1 .int (16 : Int32) [(.int (8 : Int32)), (.int (9 : Int32)), (.int (10 : Int32)), (.int (11 : Int32)), (.int (12 : Int32)), (.int (13 : Int32)), (.int (14 : Int32)), (.int (28 : Int32)), (.int (32 : Int32)), (.int (33 : Int32)), (.int (133 : Int32)), (.int (160 : Int32)), (.int (65568 : Int32)), (.int (65546 : Int32)), (.int (8232 : Int32)), (.int (-1 : Int32))] (.int (0 : Int32)) := Arv.set Ar_b1 q_b1 S_b1 N_b1 H_b1 G_b1 rfl W17 15 rfl (Nat.le_of_ble_eq_true rfl)
  obtain ⟨cl_b1, Ar_b1, q_b1, S_b1, N_b1, H_b1, G_b1⟩ := id V_b1
  have hin102 := inb_of S_b1 (own_in p2)
  obtain ⟨w9, hw9⟩ : ∃ w : Int32, ([(.int (8 : Int32)), (.int (9 : Int32)), (.int (10 : Int32)), (.int (11 : Int32)), (.int (12 : Int32)), (.int (13 : Int32)), (.int (14 : Int32)), (.int (28 : Int32)), (.int (32 : Int32)), (.int (33 : Int32)), (.int (133 : Int32)), (.int (160 : Int32)), (.int (65568 : Int32)), (.int (65546 : Int32)), (.int (8232 : Int32)), (.int (-1 : Int32))] : List Value).getD (p2 &&& 15).toNatClampNeg (.int 0) = .int w := ⟨_, own_getI [(8 : Int32), (9 : Int32), (10 : Int32), (11 : Int32), (12 : Int32), (13 : Int32), (14 : Int32), (28 : Int32), (32 : Int32), (33 : Int32), (133 : Int32), (160 : Int32), (65568 : Int32), (65546 : Int32), (8232 : Int32), (-1 : Int32)] _⟩
  have hat102 := Has.at H_b1 hin102 hw9
  obtain ⟨_, _, ⟨T18, L18, k18, n18⟩, -, X18, ⟨Lc18, hQ18, l18, y18, z18⟩, st18⟩ := Jvm.LawKit.callS X17 hx (y := (⟨"com/example/kennet/kennet/xdm/Characters", "isWhitespace", "(I)Z"⟩ : MethodName)) hown (mvT hZ (hw _ (List.mem_of_getElem? (i := 3) rfl))) (mvT hZ (hw _ (List.mem_of_getElem? (i := 4) rfl))) (mvT hZ (hw _ (List.mem_of_getElem? (i := 5) rfl))) (mvT hZ (hw _ (List.mem_of_getElem? (i := 6) rfl))) (by decide) (backOf (W := 0) (rm1 l Z a0 hw [] p1  h17 n0 Z17 ) hZ (hw _ (List.mem_of_getElem? (i := 6) rfl)) (hw _ (List.mem_of_getElem? (i := 5) rfl)) (by decide) (by decide)) (g := (mkF m 105 #[.val (.int p1), .val (.int p2), .val (.ref b1), .val (.int w9), .unset, .unset] [(.int p1)])) rfl (by rw [hml]; rfl) (argsL := [(.int p1)]) (rest := []) (lenOf own_pd0 rfl) rfl (by show 2 * 0 + _ ≤ _; exact Nat.le_of_eq rfl) (hb hby at_105) (fun _ _ => ⟨rfl, e17, (by decide : 1 + 0 ≤ _), (by decide : 16 + 0 ≤ _)⟩)
  dsimp only [Pt.U, Pt.locs, Pt.cells, Pt.slots] at X18 l18 y18 z18 st18 hQ18
  subst l18 y18 z18
  obtain ⟨rfl, N18q, e18⟩ := hQ18
  have N18 := Fr.app N17 N18q
  obtain ⟨_, _, ⟨T19, L19, k19, n19⟩, -, X19, ⟨Lc19, hQ19, l19, y19, z19⟩, st19⟩ := Jvm.LawKit.callS X18 hx (y := (⟨"com/example/kennet/kennet/xdm/CharactersIsWhitespacePinLaw", "expected", "(I)Z"⟩ : MethodName)) hown (mvT hZ (hw _ (List.mem_of_getElem? (i := 7) rfl))) (mvT hZ (hw _ (List.mem_of_getElem? (i := 8) rfl))) (mvT hZ (hw _ (List.mem_of_getElem? (i := 9) rfl))) (mvT hZ (hw _ (List.mem_of_getElem? (i := 10) rfl))) (by decide) (backOf (W := 1) (rm2 l Z a0 hw [] p1  h17 n0 Z17 ) hZ (hw _ (List.mem_of_getElem? (i := 10) rfl)) (hw _ (List.mem_of_getElem? (i := 9) rfl)) (by decide) (by decide)) (g := (mkF m 109 #[.val (.int p1), .val (.int p2), .val (.ref b1), .val (.int w9), .unset, .unset] [(.int p1), (.int (own_W p1))])) rfl (by rw [hml]; rfl) (argsL := [(.int p1)]) (rest := [(.int (own_W p1))]) (lenOf own_pd0 rfl) rfl (by show 2 * 0 + _ ≤ _; exact Nat.le_of_eq rfl) (hb hby at_109) (fun _ _ => ⟨rfl, e18, (by decide : 1 + 0 ≤ _), (by decide : 16 + 0 ≤ _)⟩)
  dsimp only [Pt.U, Pt.locs, Pt.cells, Pt.slots] at X19 l19 y19 z19 st19 hQ19
  subst l19 y19 z19
  obtain ⟨rfl, N19q, e19⟩ := hQ19
  have N19 := Fr.app N18 N19q
  obtain ⟨_, _, ⟨T20, L20, k20, n20⟩, -, X20, ⟨Lc20, hQ20, l20, y20, z20⟩, st20⟩ := Jvm.LawKit.callS X19 hx (y := (⟨"com/example/kennet/kennet/xdm/Characters", "isWhitespace", "(I)Z"⟩ : MethodName)) hown (mvT hZ (hw _ (List.mem_of_getElem? (i := 3) rfl))) (mvT hZ (hw _ (List.mem_of_getElem? (i := 4) rfl))) (mvT hZ (hw _ (List.mem_of_getElem? (i := 5) rfl))) (mvT hZ (hw _ (List.mem_of_getElem? (i := 6) rfl))) (by decide) (backOf (W := 0) (rm1 l Z a0 hw [] w9  h17 n0 Z17 ) hZ (hw _ (List.mem_of_getElem? (i := 6) rfl)) (hw _ (List.mem_of_getElem? (i := 5) rfl)) (by decide) (by decide)) (g := (mkF m 123 #[.val (.int p1), .val (.int p2), .val (.ref b1), .val (.int w9), .val (.int (1 : Int32)), .unset] [(.int w9)])) rfl (by rw [hml]; rfl) (argsL := [(.int w9)]) (rest := []) (lenOf own_pd0 rfl) rfl (by show 2 * 0 + _ ≤ _; exact Nat.le_of_eq rfl) (hb hby at_123) (fun _ _ => ⟨rfl, e19, (by decide : 1 + 0 ≤ _), (by decide : 16 + 0 ≤ _)⟩)
  dsimp only [Pt.U, Pt.locs, Pt.cells, Pt.slots] at X20 l20 y20 z20 st20 hQ20
  subst l20 y20 z20
  obtain ⟨rfl, N20q, e20⟩ := hQ20
  have N20 := Fr.app N19 N20q
  obtain ⟨_, _, ⟨T21, L21, k21, n21⟩, -, X21, ⟨Lc21, hQ21, l21, y21, z21⟩, st21⟩ := Jvm.LawKit.callS X20 hx (y := (⟨"com/example/kennet/kennet/xdm/CharactersIsWhitespacePinLaw", "expected", "(I)Z"⟩ : MethodName)) hown (mvT hZ (hw _ (List.mem_of_getElem? (i := 7) rfl))) (mvT hZ (hw _ (List.mem_of_getElem? (i := 8) rfl))) (mvT hZ (hw _ (List.mem_of_getElem? (i := 9) rfl))) (mvT hZ (hw _ (List.mem_of_getElem? (i := 10) rfl))) (by decide) (backOf (W := 1) (rm2 l Z a0 hw [] w9  h17 n0 Z17 ) hZ (hw _ (List.mem_of_getElem? (i := 10) rfl)) (hw _ (List.mem_of_getElem? (i := 9) rfl)) (by decide) (by decide)) (g := (mkF m 127 #[.val (.int p1), .val (.int p2), .val (.ref b1), .val (.int w9), .val (.int (1 : Int32)), .unset] [(.int w9), (.int (own_W w9))])) rfl (by rw [hml]; rfl) (argsL := [(.int w9)]) (rest := [(.int (own_W w9))]) (lenOf own_pd0 rfl) rfl (by show 2 * 0 + _ ≤ _; exact Nat.le_of_eq rfl) (hb hby at_127) (fun _ _ => ⟨rfl, e20, (by decide : 1 + 0 ≤ _), (by decide : 16 + 0 ≤ _)⟩)
  dsimp only [Pt.U, Pt.locs, Pt.cells, Pt.slots] at X21 l21 y21 z21 st21 hQ21
  subst l21 y21 z21
  obtain ⟨rfl, N21q, e21⟩ := hQ21
  have N21 := Fr.app N20 N21q
  have pre22 : ∀ t, Steps p.tables e below (T21.setTop (mkF m 155 #[.val (.int p1), .val (.int p2), .val (.ref b1), .val (.int w9), .val (.int (1 : Int32)), .val (.int (1 : Int32))] [(.int (1 : Int32))])) t → Steps p.tables e below (s₁.setTop (entryFrame m #[(.int p1), (.int p2)] maxLocals)) t := by
    intro t k
    refine pre0 _ ?_
    show Steps p.tables e below (s₁.setTop (mkF m 0 #[.val (.int p1), .val (.int p2), .unset, .unset, .unset, .unset] [])) _
    refine XS.bipush X0.here hx rfl (hb hby at_0) ?_
    show Steps p.tables e below (s₁.setTop (mkF m 2 #[.val (.int p1), .val (.int p2), .unset, .unset, .unset, .unset] [(.int (16 : Int32))])) _
    refine st1 _ ?_
    show Steps p.tables e below (T1.setTop (mkF m 4 #[.val (.int p1), .val (.int p2), .unset, .unset, .unset, .unset] [(.ref b1)])) _
    refine XS.dup X1.here hx rfl (hb hby at_4) rfl rfl ?_
    show Steps p.tables e below (T1.setTop (mkF m 5 #[.val (.int p1), .val (.int p2), .unset, .unset, .unset, .unset] [(.ref b1), (.ref b1)])) _
    refine XS.iconst X1.here hx rfl (hb hby at_5) ?_
    show Steps p.tables e below (T1.setTop (mkF m 6 #[.val (.int p1), .val (.int p2), .unset, .unset, .unset, .unset] [(.int (0 : Int32)), (.ref b1), (.ref b1)])) _
    refine XS.bipush X1.here hx rfl (hb hby at_6) ?_
    show Steps p.tables e below (T1.setTop (mkF m 8 #[.val (.int p1), .val (.int p2), .unset, .unset, .unset, .unset] [(.int (8 : Int32)), (.int (0 : Int32)), (.ref b1), (.ref b1)])) _
    refine st2 _ ?_
    show Steps p.tables e below (T2.setTop (mkF m 9 #[.val (.int p1), .val (.int p2), .unset, .unset, .unset, .unset] [(.ref b1)])) _
    refine XS.dup X2.here hx rfl (hb hby at_9) rfl rfl ?_
    show Steps p.tables e below (T2.setTop (mkF m 10 #[.val (.int p1), .val (.int p2), .unset, .unset, .unset, .unset] [(.ref b1), (.ref b1)])) _
    refine XS.iconst X2.here hx rfl (hb hby at_10) ?_
    show Steps p.tables e below (T2.setTop (mkF m 11 #[.val (.int p1), .val (.int p2), .unset, .unset, .unset, .unset] [(.int (1 : Int32)), (.ref b1), (.ref b1)])) _
    refine XS.bipush X2.here hx rfl (hb hby at_11) ?_
    show Steps p.tables e below (T2.setTop (mkF m 13 #[.val (.int p1), .val (.int p2), .unset, .unset, .unset, .unset] [(.int (9 : Int32)), (.int (1 : Int32)), (.ref b1), (.ref b1)])) _
    refine st3 _ ?_
    show Steps p.tables e below (T3.setTop (mkF m 14 #[.val (.int p1), .val (.int p2), .unset, .unset, .unset, .unset] [(.ref b1)])) _
    refine XS.dup X3.here hx rfl (hb hby at_14) rfl rfl ?_
    show Steps p.tables e below (T3.setTop (mkF m 15 #[.val (.int p1), .val (.int p2), .unset, .unset, .unset, .unset] [(.ref b1), (.ref b1)])) _
    refine XS.iconst X3.here hx rfl (hb hby at_15) ?_
    show Steps p.tables e below (T3.setTop (mkF m 16 #[.val (.int p1), .val (.int p2), .unset, .unset, .unset, .unset] [(.int (2 : Int32)), (.ref b1), (.ref b1)])) _
    refine XS.bipush X3.here hx rfl (hb hby at_16) ?_
    show Steps p.tables e below (T3.setTop (mkF m 18 #[.val (.int p1), .val (.int p2), .unset, .unset, .unset, .unset] [(.int (10 : Int32)), (.int (2 : Int32)), (.ref b1), (.ref b1)])) _
    refine st4 _ ?_
    show Steps p.tables e below (T4.setTop (mkF m 19 #[.val (.int p1), .val (.int p2), .unset, .unset, .unset, .unset] [(.ref b1)])) _
    refine XS.dup X4.here hx rfl (hb hby at_19) rfl rfl ?_
    show Steps p.tables e below (T4.setTop (mkF m 20 #[.val (.int p1), .val (.int p2), .unset, .unset, .unset, .unset] [(.ref b1), (.ref b1)])) _
    refine XS.iconst X4.here hx rfl (hb hby at_20) ?_
    show Steps p.tables e below (T4.setTop (mkF m 21 #[.val (.int p1), .val (.int p2), .unset, .unset, .unset, .unset] [(.int (3 : Int32)), (.ref b1), (.ref b1)])) _
    refine XS.bipush X4.here hx rfl (hb hby at_21) ?_
    show Steps p.tables e below (T4.setTop (mkF m 23 #[.val (.int p1), .val (.int p2), .unset, .unset, .unset, .unset] [(.int (11 : Int32)), (.int (3 : Int32)), (.ref b1), (.ref b1)])) _
    refine st5 _ ?_
    show Steps p.tables e below (T5.setTop (mkF m 24 #[.val (.int p1), .val (.int p2), .unset, .unset, .unset, .unset] [(.ref b1)])) _
    refine XS.dup X5.here hx rfl (hb hby at_24) rfl rfl ?_
    show Steps p.tables e below (T5.setTop (mkF m 25 #[.val (.int p1), .val (.int p2), .unset, .unset, .unset, .unset] [(.ref b1), (.ref b1)])) _
    refine XS.iconst X5.here hx rfl (hb hby at_25) ?_
    show Steps p.tables e below (T5.setTop (mkF m 26 #[.val (.int p1), .val (.int p2), .unset, .unset, .unset, .unset] [(.int (4 : Int32)), (.ref b1), (.ref b1)])) _
    refine XS.bipush X5.here hx rfl (hb hby at_26) ?_
    show Steps p.tables e below (T5.setTop (mkF m 28 #[.val (.int p1), .val (.int p2), .unset, .unset, .unset, .unset] [(.int (12 : Int32)), (.int (4 : Int32)), (.ref b1), (.ref b1)])) _
    refine st6 _ ?_
    show Steps p.tables e below (T6.setTop (mkF m 29 #[.val (.int p1), .val (.int p2), .unset, .unset, .unset, .unset] [(.ref b1)])) _
    refine XS.dup X6.here hx rfl (hb hby at_29) rfl rfl ?_
    show Steps p.tables e below (T6.setTop (mkF m 30 #[.val (.int p1), .val (.int p2), .unset, .unset, .unset, .unset] [(.ref b1), (.ref b1)])) _
    refine XS.iconst X6.here hx rfl (hb hby at_30) ?_
    show Steps p.tables e below (T6.setTop (mkF m 31 #[.val (.int p1), .val (.int p2), .unset, .unset, .unset, .unset] [(.int (5 : Int32)), (.ref b1), (.ref b1)])) _
    refine XS.bipush X6.here hx rfl (hb hby at_31) ?_
    show Steps p.tables e below (T6.setTop (mkF m 33 #[.val (.int p1), .val (.int p2), .unset, .unset, .unset, .unset] [(.int (13 : Int32)), (.int (5 : Int32)), (.ref b1), (.ref b1)])) _
    refine st7 _ ?_
    show Steps p.tables e below (T7.setTop (mkF m 34 #[.val (.int p1), .val (.int p2), .unset, .unset, .unset, .unset] [(.ref b1)])) _
    refine XS.dup X7.here hx rfl (hb hby at_34) rfl rfl ?_
    show Steps p.tables e below (T7.setTop (mkF m 35 #[.val (.int p1), .val (.int p2), .unset, .unset, .unset, .unset] [(.ref b1), (.ref b1)])) _
    refine XS.bipush X7.here hx rfl (hb hby at_35) ?_
    show Steps p.tables e below (T7.setTop (mkF m 37 #[.val (.int p1), .val (.int p2), .unset, .unset, .unset, .unset] [(.int (6 : Int32)), (.ref b1), (.ref b1)])) _
    refine XS.bipush X7.here hx rfl (hb hby at_37) ?_
    show Steps p.tables e below (T7.setTop (mkF m 39 #[.val (.int p1), .val (.int p2), .unset, .unset, .unset, .unset] [(.int (14 : Int32)), (.int (6 : Int32)), (.ref b1), (.ref b1)])) _
    refine st8 _ ?_
    show Steps p.tables e below (T8.setTop (mkF m 40 #[.val (.int p1), .val (.int p2), .unset, .unset, .unset, .unset] [(.ref b1)])) _
    refine XS.dup X8.here hx rfl (hb hby at_40) rfl rfl ?_
    show Steps p.tables e below (T8.setTop (mkF m 41 #[.val (.int p1), .val (.int p2), .unset, .unset, .unset, .unset] [(.ref b1), (.ref b1)])) _
    refine XS.bipush X8.here hx rfl (hb hby at_41) ?_
    show Steps p.tables e below (T8.setTop (mkF m 43 #[.val (.int p1), .val (.int p2), .unset, .unset, .unset, .unset] [(.int (7 : Int32)), (.ref b1), (.ref b1)])) _
    refine XS.bipush X8.here hx rfl (hb hby at_43) ?_
    show Steps p.tables e below (T8.setTop (mkF m 45 #[.val (.int p1), .val (.int p2), .unset, .unset, .unset, .unset] [(.int (28 : Int32)), (.int (7 : Int32)), (.ref b1), (.ref b1)])) _
    refine st9 _ ?_
    show Steps p.tables e below (T9.setTop (mkF m 46 #[.val (.int p1), .val (.int p2), .unset, .unset, .unset, .unset] [(.ref b1)])) _
    refine XS.dup X9.here hx rfl (hb hby at_46) rfl rfl ?_
    show Steps p.tables e below (T9.setTop (mkF m 47 #[.val (.int p1), .val (.int p2), .unset, .unset, .unset, .unset] [(.ref b1), (.ref b1)])) _
    refine XS.bipush X9.here hx rfl (hb hby at_47) ?_
    show Steps p.tables e below (T9.setTop (mkF m 49 #[.val (.int p1), .val (.int p2), .unset, .unset, .unset, .unset] [(.int (8 : Int32)), (.ref b1), (.ref b1)])) _
    refine XS.bipush X9.here hx rfl (hb hby at_49) ?_
    show Steps p.tables e below (T9.setTop (mkF m 51 #[.val (.int p1), .val (.int p2), .unset, .unset, .unset, .unset] [(.int (32 : Int32)), (.int (8 : Int32)), (.ref b1), (.ref b1)])) _
    refine st10 _ ?_
    show Steps p.tables e below (T10.setTop (mkF m 52 #[.val (.int p1), .val (.int p2), .unset, .unset, .unset, .unset] [(.ref b1)])) _
    refine XS.dup X10.here hx rfl (hb hby at_52) rfl rfl ?_
    show Steps p.tables e below (T10.setTop (mkF m 53 #[.val (.int p1), .val (.int p2), .unset, .unset, .unset, .unset] [(.ref b1), (.ref b1)])) _
    refine XS.bipush X10.here hx rfl (hb hby at_53) ?_
    show Steps p.tables e below (T10.setTop (mkF m 55 #[.val (.int p1), .val (.int p2), .unset, .unset, .unset, .unset] [(.int (9 : Int32)), (.ref b1), (.ref b1)])) _
    refine XS.bipush X10.here hx rfl (hb hby at_55) ?_
    show Steps p.tables e below (T10.setTop (mkF m 57 #[.val (.int p1), .val (.int p2), .unset, .unset, .unset, .unset] [(.int (33 : Int32)), (.int (9 : Int32)), (.ref b1), (.ref b1)])) _
    refine st11 _ ?_
    show Steps p.tables e below (T11.setTop (mkF m 58 #[.val (.int p1), .val (.int p2), .unset, .unset, .unset, .unset] [(.ref b1)])) _
    refine XS.dup X11.here hx rfl (hb hby at_58) rfl rfl ?_
    show Steps p.tables e below (T11.setTop (mkF m 59 #[.val (.int p1), .val (.int p2), .unset, .unset, .unset, .unset] [(.ref b1), (.ref b1)])) _
    refine XS.bipush X11.here hx rfl (hb hby at_59) ?_
    show Steps p.tables e below (T11.setTop (mkF m 61 #[.val (.int p1), .val (.int p2), .unset, .unset, .unset, .unset] [(.int (10 : Int32)), (.ref b1), (.ref b1)])) _
    refine XS.sipush X11.here hx rfl (hb hby at_61) ?_
    show Steps p.tables e below (T11.setTop (mkF m 64 #[.val (.int p1), .val (.int p2), .unset, .unset, .unset, .unset] [(.int (133 : Int32)), (.int (10 : Int32)), (.ref b1), (.ref b1)])) _
    refine st12 _ ?_
    show Steps p.tables e below (T12.setTop (mkF m 65 #[.val (.int p1), .val (.int p2), .unset, .unset, .unset, .unset] [(.ref b1)])) _
    refine XS.dup X12.here hx rfl (hb hby at_65) rfl rfl ?_
    show Steps p.tables e below (T12.setTop (mkF m 66 #[.val (.int p1), .val (.int p2), .unset, .unset, .unset, .unset] [(.ref b1), (.ref b1)])) _
    refine XS.bipush X12.here hx rfl (hb hby at_66) ?_
    show Steps p.tables e below (T12.setTop (mkF m 68 #[.val (.int p1), .val (.int p2), .unset, .unset, .unset, .unset] [(.int (11 : Int32)), (.ref b1), (.ref b1)])) _
    refine XS.sipush X12.here hx rfl (hb hby at_68) ?_
    show Steps p.tables e below (T12.setTop (mkF m 71 #[.val (.int p1), .val (.int p2), .unset, .unset, .unset, .unset] [(.int (160 : Int32)), (.int (11 : Int32)), (.ref b1), (.ref b1)])) _
    refine st13 _ ?_
    show Steps p.tables e below (T13.setTop (mkF m 72 #[.val (.int p1), .val (.int p2), .unset, .unset, .unset, .unset] [(.ref b1)])) _
    refine XS.dup X13.here hx rfl (hb hby at_72) rfl rfl ?_
    show Steps p.tables e below (T13.setTop (mkF m 73 #[.val (.int p1), .val (.int p2), .unset, .unset, .unset, .unset] [(.ref b1), (.ref b1)])) _
    refine XS.bipush X13.here hx rfl (hb hby at_73) ?_
    show Steps p.tables e below (T13.setTop (mkF m 75 #[.val (.int p1), .val (.int p2), .unset, .unset, .unset, .unset] [(.int (12 : Int32)), (.ref b1), (.ref b1)])) _
    refine X13.ldcI hx hown (mvT hZ (hw _ (List.mem_of_getElem? (i := 1) rfl))) rfl (hb hby at_75) ?_
    show Steps p.tables e below (T13.setTop (mkF m 77 #[.val (.int p1), .val (.int p2), .unset, .unset, .unset, .unset] [(.int (65568 : Int32)), (.int (12 : Int32)), (.ref b1), (.ref b1)])) _
    refine st14 _ ?_
    show Steps p.tables e below (T14.setTop (mkF m 78 #[.val (.int p1), .val (.int p2), .unset, .unset, .unset, .unset] [(.ref b1)])) _
    refine XS.dup X14.here hx rfl (hb hby at_78) rfl rfl ?_
    show Steps p.tables e below (T14.setTop (mkF m 79 #[.val (.int p1), .val (.int p2), .unset, .unset, .unset, .unset] [(.ref b1), (.ref b1)])) _
    refine XS.bipush X14.here hx rfl (hb hby at_79) ?_
    show Steps p.tables e below (T14.setTop (mkF m 81 #[.val (.int p1), .val (.int p2), .unset, .unset, .unset, .unset] [(.int (13 : Int32)), (.ref b1), (.ref b1)])) _
    refine X14.ldcI hx hown (mvT hZ (hw _ (List.mem_of_getElem? (i := 2) rfl))) rfl (hb hby at_81) ?_
    show Steps p.tables e below (T14.setTop (mkF m 83 #[.val (.int p1), .val (.int p2), .unset, .unset, .unset, .unset] [(.int (65546 : Int32)), (.int (13 : Int32)), (.ref b1), (.ref b1)])) _
    refine st15 _ ?_
    show Steps p.tables e below (T15.setTop (mkF m 84 #[.val (.int p1), .val (.int p2), .unset, .unset, .unset, .unset] [(.ref b1)])) _
    refine XS.dup X15.here hx rfl (hb hby at_84) rfl rfl ?_
    show Steps p.tables e below (T15.setTop (mkF m 85 #[.val (.int p1), .val (.int p2), .unset, .unset, .unset, .unset] [(.ref b1), (.ref b1)])) _
    refine XS.bipush X15.here hx rfl (hb hby at_85) ?_
    show Steps p.tables e below (T15.setTop (mkF m 87 #[.val (.int p1), .val (.int p2), .unset, .unset, .unset, .unset] [(.int (14 : Int32)), (.ref b1), (.ref b1)])) _
    refine XS.sipush X15.here hx rfl (hb hby at_87) ?_
    show Steps p.tables e below (T15.setTop (mkF m 90 #[.val (.int p1), .val (.int p2), .unset, .unset, .unset, .unset] [(.int (8232 : Int32)), (.int (14 : Int32)), (.ref b1), (.ref b1)])) _
    refine st16 _ ?_
    show Steps p.tables e below (T16.setTop (mkF m 91 #[.val (.int p1), .val (.int p2), .unset, .unset, .unset, .unset] [(.ref b1)])) _
    refine XS.dup X16.here hx rfl (hb hby at_91) rfl rfl ?_
    show Steps p.tables e below (T16.setTop (mkF m 92 #[.val (.int p1), .val (.int p2), .unset, .unset, .unset, .unset] [(.ref b1), (.ref b1)])) _
    refine XS.bipush X16.here hx rfl (hb hby at_92) ?_
    show Steps p.tables e below (T16.setTop (mkF m 94 #[.val (.int p1), .val (.int p2), .unset, .unset, .unset, .unset] [(.int (15 : Int32)), (.ref b1), (.ref b1)])) _
    refine XS.iconst X16.here hx rfl (hb hby at_94) ?_
    show Steps p.tables e below (T16.setTop (mkF m 95 #[.val (.int p1), .val (.int p2), .unset, .unset, .unset, .unset] [(.int (-1 : Int32)), (.int (15 : Int32)), (.ref b1), (.ref b1)])) _
    refine st17 _ ?_
    show Steps p.tables e below (T17.setTop (mkF m 96 #[.val (.int p1), .val (.int p2), .unset, .unset, .unset, .unset] [(.ref b1)])) _
    refine XS.astoreN X17.here hx rfl (hb hby at_96) rfl rfl (l' := #[.val (.int p1), .val (.int p2), .val (.ref b1), .unset, .unset, .unset]) rfl ?_
    show Steps p.tables e below (T17.setTop (mkF m 97 #[.val (.int p1), .val (.int p2), .val (.ref b1), .unset, .unset, .unset] [])) _
    refine XS.aloadN X17.here hx rfl (hb hby at_97) rfl rfl ?_
    show Steps p.tables e below (T17.setTop (mkF m 98 #[.val (.int p1), .val (.int p2), .val (.ref b1), .unset, .unset, .unset] [(.ref b1)])) _
    refine XS.iloadN X17.here hx rfl (hb hby at_98) rfl ?_
    show Steps p.tables e below (T17.setTop (mkF m 99 #[.val (.int p1), .val (.int p2), .val (.ref b1), .unset, .unset, .unset] [(.int p2), (.ref b1)])) _
    refine XS.bipush X17.here hx rfl (hb hby at_99) ?_
    show Steps p.tables e below (T17.setTop (mkF m 101 #[.val (.int p1), .val (.int p2), .val (.ref b1), .unset, .unset, .unset] [(.int (15 : Int32)), (.int p2), (.ref b1)])) _
    refine XS.iand X17.here hx rfl (hb hby at_101) rfl ?_
    show Steps p.tables e below (T17.setTop (mkF m 102 #[.val (.int p1), .val (.int p2), .val (.ref b1), .unset, .unset, .unset] [(.int (p2 &&& (15 : Int32))), (.ref b1)])) _
    refine X17.iaload hx (j := (p2 &&& (15 : Int32))) (v := (.int w9)) (by rw [e17]; exact Ar_b1.1) (State.isArrayOf_alike hZ.alike Ar_b1.2.1) Ar_b1.2.2 hin102 hat102 (g := (mkF m 102 #[.val (.int p1), .val (.int p2), .val (.ref b1), .unset, .unset, .unset] [(.int (p2 &&& (15 : Int32))), (.ref b1)])) rfl rfl (hb hby at_102) _ ?_
    show Steps p.tables e below (T17.setTop (mkF m 103 #[.val (.int p1), .val (.int p2), .val (.ref b1), .unset, .unset, .unset] [(.int w9)])) _
    refine XS.istoreN X17.here hx rfl (hb hby at_103) rfl (l' := #[.val (.int p1), .val (.int p2), .val (.ref b1), .val (.int w9), .unset, .unset]) rfl ?_
    show Steps p.tables e below (T17.setTop (mkF m 104 #[.val (.int p1), .val (.int p2), .val (.ref b1), .val (.int w9), .unset, .unset] [])) _
    refine XS.iloadN X17.here hx rfl (hb hby at_104) rfl ?_
    show Steps p.tables e below (T17.setTop (mkF m 105 #[.val (.int p1), .val (.int p2), .val (.ref b1), .val (.int w9), .unset, .unset] [(.int p1)])) _
    refine st18 _ ?_
    show Steps p.tables e below (T18.setTop (mkF m 108 #[.val (.int p1), .val (.int p2), .val (.ref b1), .val (.int w9), .unset, .unset] [(.int (own_W p1))])) _
    refine XS.iloadN X18.here hx rfl (hb hby at_108) rfl ?_
    show Steps p.tables e below (T18.setTop (mkF m 109 #[.val (.int p1), .val (.int p2), .val (.ref b1), .val (.int w9), .unset, .unset] [(.int p1), (.int (own_W p1))])) _
    refine st19 _ ?_
    show Steps p.tables e below (T19.setTop (mkF m 112 #[.val (.int p1), .val (.int p2), .val (.ref b1), .val (.int w9), .unset, .unset] [(.int (own_W p1)), (.int (own_W p1))])) _
    refine XS.icmpNo X19.here hx rfl (hb hby at_112) rfl (teq (rfl : (own_W p1) = (own_W p1))).2 ?_
    show Steps p.tables e below (T19.setTop (mkF m 115 #[.val (.int p1), .val (.int p2), .val (.ref b1), .val (.int w9), .unset, .unset] [])) _
    refine XS.iconst X19.here hx rfl (hb hby at_115) ?_
    show Steps p.tables e below (T19.setTop (mkF m 116 #[.val (.int p1), .val (.int p2), .val (.ref b1), .val (.int w9), .unset, .unset] [(.int (1 : Int32))])) _
    refine XS.goto X19.here hx rfl (pc0 := 116) (pc' := 120) rfl (hb hby at_116) (by decide) (by decide) ?_
    show Steps p.tables e below (T19.setTop (mkF m 120 #[.val (.int p1), .val (.int p2), .val (.ref b1), .val (.int w9), .unset, .unset] [(.int (1 : Int32))])) _
    refine XS.istore X19.here hx rfl (hb hby at_120) rfl (l' := #[.val (.int p1), .val (.int p2), .val (.ref b1), .val (.int w9), .val (.int (1 : Int32)), .unset]) rfl ?_
    show Steps p.tables e below (T19.setTop (mkF m 122 #[.val (.int p1), .val (.int p2), .val (.ref b1), .val (.int w9), .val (.int (1 : Int32)), .unset] [])) _
    refine XS.iloadN X19.here hx rfl (hb hby at_122) rfl ?_
    show Steps p.tables e below (T19.setTop (mkF m 123 #[.val (.int p1), .val (.int p2), .val (.ref b1), .val (.int w9), .val (.int (1 : Int32)), .unset] [(.int w9)])) _
    refine st20 _ ?_
    show Steps p.tables e below (T20.setTop (mkF m 126 #[.val (.int p1), .val (.int p2), .val (.ref b1), .val (.int w9), .val (.int (1 : Int32)), .unset] [(.int (own_W w9))])) _
    refine XS.iloadN X20.here hx rfl (hb hby at_126) rfl ?_
    show Steps p.tables e below (T20.setTop (mkF m 127 #[.val (.int p1), .val (.int p2), .val (.ref b1), .val (.int w9), .val (.int (1 : Int32)), .unset] [(.int w9), (.int (own_W w9))])) _
    refine st21 _ ?_
    show Steps p.tables e below (T21.setTop (mkF m 130 #[.val (.int p1), .val (.int p2), .val (.ref b1), .val (.int w9), .val (.int (1 : Int32)), .unset] [(.int (own_W w9)), (.int (own_W w9))])) _
    refine XS.icmpNo X21.here hx rfl (hb hby at_130) rfl (teq (rfl : (own_W w9) = (own_W w9))).2 ?_
    show Steps p.tables e below (T21.setTop (mkF m 133 #[.val (.int p1), .val (.int p2), .val (.ref b1), .val (.int w9), .val (.int (1 : Int32)), .unset] [])) _
    refine XS.iconst X21.here hx rfl (hb hby at_133) ?_
    show Steps p.tables e below (T21.setTop (mkF m 134 #[.val (.int p1), .val (.int p2), .val (.ref b1), .val (.int w9), .val (.int (1 : Int32)), .unset] [(.int (1 : Int32))])) _
    refine XS.goto X21.here hx rfl (pc0 := 134) (pc' := 138) rfl (hb hby at_134) (by decide) (by decide) ?_
    show Steps p.tables e below (T21.setTop (mkF m 138 #[.val (.int p1), .val (.int p2), .val (.ref b1), .val (.int w9), .val (.int (1 : Int32)), .unset] [(.int (1 : Int32))])) _
    refine XS.istore X21.here hx rfl (hb hby at_138) rfl (l' := #[.val (.int p1), .val (.int p2), .val (.ref b1), .val (.int w9), .val (.int (1 : Int32)), .val (.int (1 : Int32))]) rfl ?_
    show Steps p.tables e below (T21.setTop (mkF m 140 #[.val (.int p1), .val (.int p2), .val (.ref b1), .val (.int w9), .val (.int (1 : Int32)), .val (.int (1 : Int32))] [])) _
    refine XS.iload X21.here hx rfl (hb hby at_140) rfl ?_
    show Steps p.tables e below (T21.setTop (mkF m 142 #[.val (.int p1), .val (.int p2), .val (.ref b1), .val (.int w9), .val (.int (1 : Int32)), .val (.int (1 : Int32))] [(.int (1 : Int32))])) _
    refine XS.ifNo X21.here hx rfl (hb hby at_142) rfl ((if0 _ _).trans (feq (by decide : ¬ ((1 : Int32) = (0 : Int32)))).1) ?_
    show Steps p.tables e below (T21.setTop (mkF m 145 #[.val (.int p1), .val (.int p2), .val (.ref b1), .val (.int w9), .val (.int (1 : Int32)), .val (.int (1 : Int32))] [])) _
    refine XS.iload X21.here hx rfl (hb hby at_145) rfl ?_
    show Steps p.tables e below (T21.setTop (mkF m 147 #[.val (.int p1), .val (.int p2), .val (.ref b1), .val (.int w9), .val (.int (1 : Int32)), .val (.int (1 : Int32))] [(.int (1 : Int32))])) _
    refine XS.ifNo X21.here hx rfl (hb hby at_147) rfl ((if0 _ _).trans (feq (by decide : ¬ ((1 : Int32) = (0 : Int32)))).1) ?_
    show Steps p.tables e below (T21.setTop (mkF m 150 #[.val (.int p1), .val (.int p2), .val (.ref b1), .val (.int w9), .val (.int (1 : Int32)), .val (.int (1 : Int32))] [])) _
    refine XS.iconst X21.here hx rfl (hb hby at_150) ?_
    show Steps p.tables e below (T21.setTop (mkF m 151 #[.val (.int p1), .val (.int p2), .val (.ref b1), .val (.int w9), .val (.int (1 : Int32)), .val (.int (1 : Int32))] [(.int (1 : Int32))])) _
    refine XS.goto X21.here hx rfl (pc0 := 151) (pc' := 155) rfl (hb hby at_151) (by decide) (by decide) ?_
    exact k
  obtain ⟨fs, hr, hrun, hended, hW, hsame⟩ := X21.leave (v := some (.int (1 : Int32))) (fun h => by rw [Bd.returns] at h; cases h)
  refine ⟨_, _, pre22 _ ?_, hrun, hended, _, _, rfl, ?_, ⟨_, rfl⟩, hW, hsame.mono (by decide) (by decide)⟩
  · show Steps p.tables e below (T21.setTop (mkF m 155 #[.val (.int p1), .val (.int p2), .val (.ref b1), .val (.int w9), .val (.int (1 : Int32)), .val (.int (1 : Int32))] [(.int (1 : Int32))])) _
    exact retN X21 hx (t := .boolean) Bd.returns (by simp) (hb hby at_155) hr
  · show own_Q0 Z p1 p2 h0 n0 _ T21.heap _
    rw [e21]
    exact ⟨rfl, N21⟩
set_option maxRecDepth 65536 in
set_option maxHeartbeats 40000000 in
theorem comes_1 {Post : Tables → Env → Array Value → State → Outcome → State → Prop} (hpost : ∀ tb e args s v u, (limb_1_1.after args s (.returned v) u = true ∧ limb_1_2.after args s (.returned v) u = true ∧ True) → FrameEnd s (.returned v) u (Jvm.fieldLocs frame_1_writes args s ++ Jvm.arrayLocs frame_1_arrays args s ++ Jvm.staticLocs frame_1_statics s) 16 128 → Post tb e args s (.returned v) u) :
    ArmFor flags0 classFile x code maxLocals ret World_1 tables_1 room_1 Calls_1 rest_1 Pre_1 Post := by
  intro l hfl _ _ p e ha hc hk s m args below hf hA hF happ hP
  obtain ⟨hcalls, hrest, hpre⟩ := hP
  obtain ⟨-, -, -, hnamed, -, -, -, hat⟩ := (Spec.applies_iff hf).mp happ
  obtain ⟨hg, hn⟩ := and_e (Cond.before_iff.mp (show (Jvm.Cond.and given_1 narrow_1).before args s = true from hpre))
  obtain ⟨hg2, hg3⟩ := and_e hg
  obtain ⟨hg4, hg5⟩ := and_e hg3
  obtain ⟨w0, w1, rfl⟩ : ∃ w0 w1 : Value, args = #[w0, w1] := by
    have hs : args.size = 2 := by simpa [Cond.value, given_1] using hg2
    obtain ⟨L⟩ := args
    match L, hs with
    | [w0, w1], _ => exact ⟨w0, w1, rfl⟩
  have hw := fun d (hd : d ∈ tables_1) => atoms_spec (ws := Jvm.Cond.code x code maxLocals ret :: tables_1) hat d (List.mem_cons_of_mem _ hd)
  obtain ⟨i0, ei0⟩ := is_v hg4
  obtain rfl : w0 = (.int i0) := Option.some.inj ei0
  obtain ⟨i1, ei1⟩ := is_v hg5
  obtain rfl : w1 = (.int i1) := Option.some.inj ei1
  obtain ⟨n, o, h1, h2, h3, _, L, rfl, ⟨rfl, N⟩, hq⟩ := rm0 l s _ hw tables_1 i0 i1  s.heap s.heap.size (Nat.le_refl _)  p e ha hc hk s m _ below hf ((Spec.applies_iff_loose hf).mp happ).1 ⟨rfl, State.Warmed39.refl s, rfl⟩ trivial
  refine ⟨n, _, h1, h2, h3, hpost _ _ _ _ _ _ ⟨Cond.after_iff.mpr rfl, Cond.after_iff.mpr (eq_i res_at (Term.int_eval (1)) rfl), trivial⟩ ⟨hq.1, hq.2.1, (hq.2.2.sift fun y hy => Or.inr (N y hy)).mono (by decide) (by decide)⟩⟩
theorem main_1_1 : Claimed_1_1 := comes_1 fun _ _ _ _ _ _ h hF => ⟨h.1, hF⟩
theorem main_1_2 : Claimed_1_2 := comes_1 fun _ _ _ _ _ _ h hF => ⟨h.2.1, hF⟩
end Jvm.Pilot.@@N@@
namespace Jvm.Pilot.@@N@@
open Jvm Jvm.ClassFile Sem Op Lib Jvm.Free Jvm.Stand Jvm.Pilot.@@N@@.Jvm.D
/-! MADE BY PROGRAM (witnessworld.py) out of the Statement's table words and the real class files: 9 classes; the members and pool entries that the words name. The judged class is class 1, her method 2. -/
namespace start1
open Jvm.ClassFile
def u (s : String) : CpInfo := .utf8 (stringToUtf16 s)
/-- a pool by its gaps: so many unusable entries, then the entry; so many at the end -/
def gap : Nat → List CpInfo → List CpInfo
  | 0, r => r
  | n + 1, r => .unusable :: gap n r
def poolList (es : List (Nat × CpInfo)) (last : Nat) : List CpInfo := es.foldr (fun e r => gap e.1 (e.2 :: r)) (gap last [])
def pool (es : List (Nat × CpInfo)) (last : Nat) : Array CpInfo := ⟨poolList es last⟩
def fileOf (pool : Array CpInfo) (this : Nat) (attrs : Array Attribute := #[]) (ms : Array MethodInfo := #[]) (fl : Nat := 33) (sup : Nat := 0) (ifs : Array Nat := #[]) (fds : Array FieldInfo := #[]) : ClassFile where
  minorVersion := 0
  majorVersion := 65
  constantPool := pool
  accessFlags := fl
  thisClass := this
  superClass := sup
  interfaces := ifs
  fields := fds
  methods := ms
  attributes := attrs
def plain (name : String) (sup : Option ClassId) : Class where
  name := name
  kind := .ordinary
  loader := none
  accessFlags := 33
  super := sup
  interfaces := #[]
  cf := none
  fields := #[]
  methods := #[]
  instanceTypes := #[]
  staticTypes := #[]
  resolved := #[]
  callSites := []
  init := .initialized
  statics := none
  mirror := none

def pool0 : Array CpInfo := pool [(5, u "<init>"), (0, u "()V"), (1, .class_ 10), (1, u "java/lang/Object")] 113

def k0m0 : Method := { name := "<init>", desc := "()V", sig := { parameters := [], returnType := none }, accessFlags := 1, code := none }
/-- java/lang/Object -/
def k0 : Class := { plain "java/lang/Object" none with
  accessFlags := 33
  interfaces := #[]
  cf := some (fileOf pool0 8 #[] #[{ accessFlags := 1, nameIndex := 5, descriptorIndex := 6, attributes := #[] }] 33 0 #[] #[])
  fields := #[]
  methods := #[k0m0]
  instanceTypes := #[]
  staticTypes := #[]
  resolved := Array.replicate 124 none
  statics := none }

def pool1 : Array CpInfo := pool [(2, .class_ 4), (1, u "java/lang/Object"), (0, u "<init>"), (0, u "()V"), (0, .integer 65568), (0, .integer 65546), (0, .methodref 10 11), (0, .class_ 12), (0, .nameAndType 13 14), (0, u "com/example/kennet/kennet/xdm/Characters"), (0, u "isWhitespace"), (0, u "(I)Z"), (0, .methodref 16 17), (0, .class_ 18), (0, .nameAndType 19 14), (0, u "com/example/kennet/kennet/xdm/CharactersIsWhitespacePinLaw"), (0, u "expected"), (3, u "law"), (0, u "(II)Z")] 4

def k1m0 : Method := { name := "<init>", desc := "()V", sig := { parameters := [], returnType := none }, accessFlags := 1, code := none }
def k1c1 : Code := { maxStack := 2, maxLocals := 1, code := method_2_code, exceptionTable := #[], attributes := #[] }
def k1m1 : Method := { name := "expected", desc := "(I)Z", sig := { parameters := [.int], returnType := some .boolean }, accessFlags := 10, code := some k1c1 }
def k1c2 : Code := { maxStack := 4, maxLocals := 6, code := code, exceptionTable := #[], attributes := #[] }
def k1m2 : Method := { name := "law", desc := "(II)Z", sig := { parameters := [.int, .int], returnType := some .boolean }, accessFlags := 9, code := some k1c2 }
/-- com/example/kennet/kennet/xdm/CharactersIsWhitespacePinLaw -/
def k1 : Class := { plain "com/example/kennet/kennet/xdm/CharactersIsWhitespacePinLaw" (some 0) with
  accessFlags := 49
  interfaces := #[]
  cf := some (fileOf pool1 16 #[] #[{ accessFlags := 1, nameIndex := 5, descriptorIndex := 6, attributes := #[] }, { accessFlags := 10, nameIndex := 19, descriptorIndex := 14, attributes := #[] }, { accessFlags := 9, nameIndex := 23, descriptorIndex := 24, attributes := #[] }] 49 2 #[] #[])
  fields := #[]
  methods := #[k1m0, k1m1, k1m2]
  instanceTypes := #[]
  staticTypes := #[]
  resolved := Array.replicate 29 none
  statics := none }

def pool2 : Array CpInfo := pool [(2, .class_ 4), (1, u "java/lang/Object"), (0, u "<init>"), (0, u "()V"), (16, .class_ 25), (1, u "com/example/kennet/kennet/xdm/Characters"), (0, u "isWhitespace"), (0, u "(I)Z"), (6, u "NAME_START_RANGES"), (0, u "[I"), (9, u "NAME_RANGES")] 14

def k2m0 : Method := { name := "<init>", desc := "()V", sig := { parameters := [], returnType := none }, accessFlags := 2, code := none }
def k2c1 : Code := { maxStack := 2, maxLocals := 1, code := prog_40_method_3_code, exceptionTable := #[], attributes := #[] }
def k2m1 : Method := { name := "isWhitespace", desc := "(I)Z", sig := { parameters := [.int], returnType := some .boolean }, accessFlags := 9, code := some k2c1 }
/-- com/example/kennet/kennet/xdm/Characters -/
def k2 : Class := { plain "com/example/kennet/kennet/xdm/Characters" (some 0) with
  accessFlags := 49
  interfaces := #[]
  cf := some (fileOf pool2 23 #[] #[{ accessFlags := 2, nameIndex := 5, descriptorIndex := 6, attributes := #[] }, { accessFlags := 9, nameIndex := 26, descriptorIndex := 27, attributes := #[] }] 49 2 #[] #[{ accessFlags := 26, nameIndex := 34, descriptorIndex := 35, attributes := #[] }, { accessFlags := 26, nameIndex := 45, descriptorIndex := 35, attributes := #[] }])
  fields := #[{ name := "NAME_START_RANGES", type := (.array .int), accessFlags := 26, slot := 0, constantValue := 0 }, { name := "NAME_RANGES", type := (.array .int), accessFlags := 26, slot := 1, constantValue := 0 }]
  methods := #[k2m0, k2m1]
  instanceTypes := #[]
  staticTypes := #[(.array .int), (.array .int)]
  resolved := Array.replicate 60 none
  statics := none }

def pool3 : Array CpInfo := pool [(1, u "java/lang/Cloneable"), (0, .class_ 1), (0, u "java/lang/Object"), (0, .class_ 3)] 3

/-- java/lang/Cloneable -/
def k3 : Class := { plain "java/lang/Cloneable" (some 0) with
  accessFlags := 1537
  interfaces := #[]
  cf := some (fileOf pool3 2 #[] #[] 1537 4 #[] #[])
  fields := #[]
  methods := #[]
  instanceTypes := #[]
  staticTypes := #[]
  resolved := Array.replicate 8 none
  statics := none }

def pool4 : Array CpInfo := pool [(1, u "java/io/Serializable"), (0, .class_ 1), (0, u "java/lang/Object"), (0, .class_ 3)] 3

/-- java/io/Serializable -/
def k4 : Class := { plain "java/io/Serializable" (some 0) with
  accessFlags := 1537
  interfaces := #[]
  cf := some (fileOf pool4 2 #[] #[] 1537 4 #[] #[])
  fields := #[]
  methods := #[]
  instanceTypes := #[]
  staticTypes := #[]
  resolved := Array.replicate 8 none
  statics := none }

/-- the primitive byte -/
def k5 : Class := { plain "byte" none with kind := .primitive 'B', accessFlags := 0x411 }
/-- [B -/
def k6 : Class := { plain "[B" (some 0) with kind := .array 5 .byte, interfaces := #[3, 4], accessFlags := 1041 }

/-- the primitive int -/
def k7 : Class := { plain "int" none with kind := .primitive 'I', accessFlags := 0x411 }
/-- [I -/
def k8 : Class := { plain "[I" (some 0) with kind := .array 7 .int, interfaces := #[3, 4], accessFlags := 1041 }

def heap : Heap := #[]
def classes : Array Class := #[k0, k1, k2, k3, k4, k5, k6, k7, k8]
def interned : List (Array UInt16 × Addr) := []
def slotsUsed : Nat := 0
def theMethod : MethodId := ⟨1, 2⟩
def args0 : Array Value := #[.int 5, .int 7]
def aboutOver (below : List Frame) : State where
  vm := { classes := classes, interned := interned.toArray }
  heap := heap
  slotsUsed := slotsUsed
  threads := #[{ frames := .invoking theMethod args0 :: below }]
def below0 : List Frame := [.native { method := ⟨0, 0⟩, args := #[] }]
def about1 : State := aboutOver below0
def p0 : Program := .bare "" "" ""
def e0 : Env := launch0.env 0 0 0
theorem w_frames : about1.frames = Frame.invoking theMethod args0 :: below0 := rfl
set_option maxRecDepth 65536 in
theorem w_args : argsFit about1.vm theMethod args0 = true := by decide +kernel
set_option maxRecDepth 65536 in
theorem w_heap : heapFits about1 = true := by decide +kernel
set_option maxRecDepth 65536 in
theorem w_runnable : about1.curStatus? = some .runnable := by decide +kernel
set_option maxRecDepth 65536 in
theorem w_alone : about1.alone = true := by decide +kernel
set_option maxRecDepth 65536 in
theorem w_named : about1.methodNamed? x = some theMethod := by decide +kernel
set_option maxRecDepth 65536 in
theorem w_hears : about1.hears theMethod below0 = true := by decide +kernel
set_option maxRecDepth 65536 in
theorem w_ripe : about1.ripe theMethod args0 below0 = true := by decide +kernel
theorem w_running : about1.status = .running := rfl
set_option maxRecDepth 65536 in
theorem w_room : about1.hasRoom e0.platform room_1 = true :=
  launch0.hasRoom_least _ room_1 (by decide +kernel) (by decide +kernel) (by decide +kernel) (by decide +kernel) (by decide +kernel) (by decide +kernel)
theorem allAtoms_all (ts : List Jvm.Cond) (a : Array Jvm.Value) (st : Jvm.State) : (allAtoms ts).before a st = ts.all (fun c => c.before a st) := by
  induction ts with
  | nil => rfl
  | cons c t ih =>
    show (Jvm.Cond.and c (allAtoms t)).before a st = _
    rw [Jvm.Cond.before_and, ih, List.all_cons]
def words1 : List Jvm.Cond := Jvm.Cond.code x code maxLocals ret :: tables_1
/-- a 'code' word, met by the world's own term for the bytes: nothing is compared byte by byte -/
theorem code_word {y : MethodName} {bytes : ByteArray} {mx : Nat} {rt : Option FieldType} {a : Array Value} {s : State} {m : MethodId} {meth : Method} {c : Code} (h1 : s.methodNamed? y = some m) (h2 : s.vm.method? m = some meth) (h3 : meth.code = some c) (h4 : c.code = bytes)
    (h5 : (c.maxLocals == mx && c.exceptionTable.isEmpty && decide (c.maxStack ≤ mostOperands) && decide (meth.sig.returnType = rt) && !meth.locks && decide (parseMethodDescriptor y.desc = some meth.sig)) = true) : (Jvm.Cond.code y bytes mx rt).before a s = true := by
  simp only [Bool.and_eq_true, beq_iff_eq, Bool.not_eq_true', decide_eq_true_eq] at h5
  obtain ⟨⟨⟨⟨⟨g1, g2⟩, g3⟩, g4⟩, g5⟩, g6⟩ := h5
  simp [Cond.before, Cond.holds, Cond.value, h1, h2, h3, h4, g1, g2, g3, g4, g5, g6]
def isCode : Jvm.Cond → Bool
  | .code _ _ _ _ => true
  | _ => false
theorem all_split {L : List Jvm.Cond} {P : Jvm.Cond → Bool} (h1 : L.all (fun c => isCode c || P c) = true) (h2 : ∀ c ∈ L.filter isCode, P c = true) : L.all P = true := by
  refine List.all_eq_true.mpr fun c hc => ?_
  have h := List.all_eq_true.mp h1 c hc
  rcases Bool.eq_false_or_eq_true (isCode c) with hi | hi
  · exact h2 c (List.mem_filter.mpr ⟨hc, hi⟩)
  · simpa [hi] using h
set_option maxRecDepth 65536 in
theorem w_c0 : (Jvm.Cond.code x code maxLocals ret).before args0 about1 = true := code_word (m := ⟨1, 2⟩) (meth := k1m2) (c := k1c2) (by decide +kernel) rfl rfl rfl (by decide +kernel)
set_option maxRecDepth 65536 in
theorem w_c1 : (Jvm.Cond.code ({ cls := "com/example/kennet/kennet/xdm/Characters", name := "isWhitespace", desc := "(I)Z" } : Jvm.MethodName) prog_40_method_3_code (1 : Nat) (Option.some Jvm.ClassFile.FieldType.boolean)).before args0 about1 = true := code_word (m := ⟨2, 1⟩) (meth := k2m1) (c := k2c1) (by decide +kernel) rfl rfl rfl (by decide +kernel)
set_option maxRecDepth 65536 in
theorem w_c2 : (Jvm.Cond.code ({ cls := "com/example/kennet/kennet/xdm/CharactersIsWhitespacePinLaw", name := "expected", desc := "(I)Z" } : Jvm.MethodName) method_2_code (1 : Nat) (Option.some Jvm.ClassFile.FieldType.boolean)).before args0 about1 = true := code_word (m := ⟨1, 1⟩) (meth := k1m1) (c := k1c1) (by decide +kernel) rfl rfl rfl (by decide +kernel)
def codes1 : List Jvm.Cond := [Jvm.Cond.code x code maxLocals ret, Jvm.Cond.code ({ cls := "com/example/kennet/kennet/xdm/Characters", name := "isWhitespace", desc := "(I)Z" } : Jvm.MethodName) prog_40_method_3_code (1 : Nat) (Option.some Jvm.ClassFile.FieldType.boolean), Jvm.Cond.code ({ cls := "com/example/kennet/kennet/xdm/CharactersIsWhitespacePinLaw", name := "expected", desc := "(I)Z" } : Jvm.MethodName) method_2_code (1 : Nat) (Option.some Jvm.ClassFile.FieldType.boolean)]
set_option maxRecDepth 65536 in
theorem codes_eq : words1.filter isCode = codes1 := rfl
theorem w_codes : ∀ c ∈ words1.filter isCode, c.before args0 about1 = true := by
  rw [codes_eq]
  intro c hc
  simp only [codes1, List.mem_cons, List.not_mem_nil, or_false] at hc
  rcases hc with rfl | rfl | rfl
  · exact w_c0
  · exact w_c1
  · exact w_c2
set_option maxRecDepth 65536 in
theorem w_t1 : words1.all (fun c => isCode c || c.before args0 about1) = true := by decide +kernel
theorem w_tables : (allAtoms (Jvm.Cond.code x code maxLocals ret :: tables_1)).before args0 about1 = true := by
  rw [allAtoms_all]
  show words1.all (fun c => c.before args0 about1) = true
  refine all_split ?_ w_codes
  rw [w_t1]
set_option maxRecDepth 65536 in
theorem w_case : (Jvm.Cond.and given_1 narrow_1).before args0 about1 = true := by decide +kernel
theorem w_applies : (headSpec (Jvm.Cond.code x code maxLocals ret :: tables_1) room_1).applies x e0.platform about1 = true :=
  (Spec.applies_iff w_frames).mpr ⟨w_running, w_runnable, w_alone, w_named, w_hears, w_ripe, w_room, w_tables⟩
theorem atStart : AtStart classFile x code maxLocals ret World_1 tables_1 room_1 Calls_1 rest_1 Pre_1 launch0 p0 e0 about1 theMethod args0 below0 :=
  ⟨lists_1, trivial, launch0.admits_env _ _ _, launch0.least_env, fairChoices_fair.cas, fairChoices_fair.clock, w_frames, w_args, w_heap, w_applies, trivial, trivial, w_case⟩
end start1
theorem witness_1 : WitnessClaimed_1 := ⟨start1.p0, start1.e0, start1.about1, start1.theMethod, start1.args0, start1.below0, start1.atStart⟩
end Jvm.Pilot.@@N@@
