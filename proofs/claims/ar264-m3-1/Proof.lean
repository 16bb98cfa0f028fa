import JvmDerived
import JvmDerived.Pilot.@@N@@Statement
import JvmDerived.Pilot.@@N@@Code
set_option linter.unusedVariables false
set_option linter.unusedSimpArgs false
namespace Jvm.RoadKit
open Sem ClassFile Op Lib Jvm.Stand Jvm.Free Jvm.LawKit
section New
variable {p : Program} {l : Launch} {e : Env} {R : Room} {s : State} {m : MethodId} {args : Array Value} {below : List Frame} {meth : Method} {c : Code} {T : State} {locs : List Loc} {cells slots : Nat}
theorem retI (X : Stand p l e R s m args below meth c T locs cells slots) (hx : p.tables.exec = Jvm.exec) {pc : Nat} {Ls : Array Slot} {z : Int32} {rest : List Value} (hret : meth.sig.returnType = some .int) (hd : decode c.code pc = .ok (.ireturn, 1)) {fs : List Frame}
    (hl : ∀ (f : JFrame) (acts : List Action), f.method = m → f.locked = none → f.entered = [] → (doReturn e (T.setTop f) acts (some (.int z))).1 = T.setFrames fs) : Steps p.tables e below (T.setTop (mkF m pc Ls (.int z :: rest))) (T.setFrames fs) := by
  have hm' : T.vm.method? m = some meth := X.method'
  have hn : narrow .int (.int z) = .int z := rfl
  show Steps p.tables e below (T.setTop { method := m, pc := pc, locals := Ls, stack := _ :: rest, locked := none }) _
  jvm_step X.here [X.here.top, hx, hd, hm', hret, hn]
  first | (intro acts; rw [hl _ acts rfl rfl rfl]) | rw [hl _ _ rfl rfl rfl]
  exact Steps.refl _
end New
end Jvm.RoadKit
namespace Jvm.Pilot.@@N@@
open Jvm Jvm.ClassFile Sem Op Lib Jvm.Free Jvm.Stand Jvm.LawKit Jvm.RoadKit Bundle Jvm.Pilot.@@N@@.Jvm.D
def own_Go (p : Program) (e : Env) (below : List Frame) (A B : State) : Prop := ∀ t, Steps p.tables e below B t → Steps p.tables e below A t
def Q1 (Z : State) (p1 : Int32) (h0 : Heap) (n0 : Nat) (v : Option Value) (h : Heap) (L : List Loc) : Prop := v = some (.int (1 : Int32)) ∧ Fr n0 L ∧ h = h0
theorem d1_0 : decode prog_95_method_6_code 0 = .ok (.iload_n 0, 1) := by decide +kernel
theorem d1_1 : decode prog_95_method_6_code 1 = .ok (.bipush 32, 2) := by decide +kernel
theorem d1_3 : decode prog_95_method_6_code 3 = .ok (.if_icmp .eq 21, 3) := by decide +kernel
theorem d1_6 : decode prog_95_method_6_code 6 = .ok (.iload_n 0, 1) := by decide +kernel
theorem d1_7 : decode prog_95_method_6_code 7 = .ok (.bipush 10, 2) := by decide +kernel
theorem d1_9 : decode prog_95_method_6_code 9 = .ok (.if_icmp .eq 15, 3) := by decide +kernel
theorem d1_12 : decode prog_95_method_6_code 12 = .ok (.iload_n 0, 1) := by decide +kernel
theorem d1_13 : decode prog_95_method_6_code 13 = .ok (.bipush 9, 2) := by decide +kernel
theorem d1_15 : decode prog_95_method_6_code 15 = .ok (.if_icmp .eq 9, 3) := by decide +kernel
theorem d1_18 : decode prog_95_method_6_code 18 = .ok (.iload_n 0, 1) := by decide +kernel
theorem d1_19 : decode prog_95_method_6_code 19 = .ok (.bipush 13, 2) := by decide +kernel
theorem d1_21 : decode prog_95_method_6_code 21 = .ok (.if_icmp .ne 7, 3) := by decide +kernel
theorem d1_24 : decode prog_95_method_6_code 24 = .ok (.iconst 1, 1) := by decide +kernel
theorem d1_25 : decode prog_95_method_6_code 25 = .ok (.goto 4, 3) := by decide +kernel
theorem d1_28 : decode prog_95_method_6_code 28 = .ok (.iconst 0, 1) := by decide +kernel
theorem d1_29 : decode prog_95_method_6_code 29 = .ok (.ireturn, 1) := by decide +kernel
theorem pn_1 : plainName "com/example/libxdm/libxdm/xml/XmlChars" = true := by first | (simp [plainName, overriddenIn]; done) | decide +kernel
theorem ef_1 (m : MethodId) (x0 : Int32) : entryFrame m #[(.int x0)] 1 = mkF m 0 #[.val (.int x0)] [] := by first | (simp [entryFrame, mkF, argsToLocals, Value.category]; done) | rfl
set_option maxRecDepth 65536 in
set_option maxHeartbeats 40000000 in
theorem rm1 (l : Launch) (Z : State) (a0 : Array Value) (hw : ∀ d ∈ tables_1, d.before a0 Z = true) (ws : List Jvm.Cond) (p1 : Int32) (h0 : Heap) (n0 : Nat) (Z0 : n0 ≤ h0.size) (hc : (p1 = 32 ∨ p1 = 10 ∨ p1 = 9 ∨ p1 = 13)) :
    MetFree l (⟨"com/example/libxdm/libxdm/xml/XmlChars", "isSpace", "(I)Z"⟩ : MethodName) (head1 (Jvm.Cond.code (⟨"com/example/libxdm/libxdm/xml/XmlChars", "isSpace", "(I)Z"⟩ : MethodName) prog_95_method_6_code 1 (some .boolean) :: ws) ({ frames := 0, cells := 0, slots := 0, locals := 0 } : Room)) (fun a U => a = #[(.int p1)] ∧ Z.Warmed39 U.vm ∧ U.heap = h0) (fun _ _ _ _ _ => True) (fun _ U o U' => ∃ v L, o = .returned v ∧ Q1 Z p1 h0 n0 v U'.heap L ∧ FrameEnd U o U' L ({ frames := 0, cells := 0, slots := 0, locals := 0 } : Room).cells ({ frames := 0, cells := 0, slots := 0, locals := 0 } : Room).slots) := by
  refine MetFree.of_bodySF (plainFor_of_name pn_1) hisR ?_
  intro p e s m args below meth c s₁ Bd hml0 hP hK
  obtain ⟨rfl, hZ, hh⟩ := hP
  have hx := Bd.exec
  have hby := Bd.bytes
  have hml : c.maxLocals = 1 := hml0
  have hown : s.vm.findClass "com/example/libxdm/libxdm/xml/XmlChars" = some m.cls := findClass_of_methodNamed Bd.named
  have hnm := (name_of_methodNamed Bd.named Bd.method).1
  have X0 : Stand p l e ({ frames := 0, cells := 0, slots := 0, locals := 0 } : Room) s m #[(.int p1)] below meth c s₁ [] 0 0 := Stand.of_body Bd
  have e0 : s₁.heap = h0 := by rw [← hh, Bd.state]; rfl
  have N0 := Fr.nil n0
  have pre0 : own_Go p e below (s₁.setTop (entryFrame m #[(.int p1)] 1)) (s₁.setTop (mkF m 0 #[.val (.int p1)] [])) := fun t k => castTop (ef_1 m p1) k
  have pre1 : own_Go p e below (s₁.setTop (entryFrame m #[(.int p1)] 1)) (s₁.setTop (mkF m 3 #[.val (.int p1)] [(.int (32 : Int32)), (.int p1)])) := fun t k => pre0 t (by
      show Steps p.tables e below (s₁.setTop (mkF m 0 #[.val (.int p1)] [])) _
      refine XS.iloadN X0.here hx rfl (hb hby d1_0) rfl ?_
      show Steps p.tables e below (s₁.setTop (mkF m 1 #[.val (.int p1)] [(.int p1)])) _
      refine XS.bipush X0.here hx rfl (hb hby d1_1) ?_
      exact k)
  by_cases c3_2 : p1 = (32 : Int32)
  · skip
    have pre3 : own_Go p e below (s₁.setTop (entryFrame m #[(.int p1)] 1)) (s₁.setTop (mkF m 29 #[.val (.int p1)] [(.int (1 : Int32))])) := fun t k => pre1 t (by
        show Steps p.tables e below (s₁.setTop (mkF m 3 #[.val (.int p1)] [(.int (32 : Int32)), (.int p1)])) _
        refine XS.icmpYes X0.here hx rfl (pc0 := 3) (pc' := 24) rfl (hb hby d1_3) rfl (XT.ii_eq_t c3_2) (by decide) (by decide) ?_
        show Steps p.tables e below (s₁.setTop (mkF m 24 #[.val (.int p1)] [])) _
        refine XS.iconst X0.here hx rfl (hb hby d1_24) ?_
        show Steps p.tables e below (s₁.setTop (mkF m 25 #[.val (.int p1)] [(.int (1 : Int32))])) _
        refine XS.goto X0.here hx rfl (pc0 := 25) (pc' := 29) rfl (hb hby d1_25) (by decide) (by decide) ?_
        exact k)
    obtain ⟨fs, hr, hrun, hended, hW, hsame⟩ := X0.leave (v := some (.int (1 : Int32))) (fun h => by rw [Bd.returns] at h; cases h)
    refine ⟨_, _, pre3 _ ?_, hrun, hended, _, _, rfl, ?_, ⟨_, rfl⟩, hW, hsame.mono (by decide) (by decide)⟩
    · show Steps p.tables e below (s₁.setTop (mkF m 29 #[.val (.int p1)] [(.int (1 : Int32))])) _
      exact retN X0 hx (t := .boolean) Bd.returns (by simp) (hb hby d1_29) hr
    · show Q1 Z p1 h0 n0 _ s₁.heap _
      rw [e0]
      exact ⟨rfl, N0, rfl⟩
  · skip
    have pre4 : own_Go p e below (s₁.setTop (entryFrame m #[(.int p1)] 1)) (s₁.setTop (mkF m 9 #[.val (.int p1)] [(.int (10 : Int32)), (.int p1)])) := fun t k => pre1 t (by
        show Steps p.tables e below (s₁.setTop (mkF m 3 #[.val (.int p1)] [(.int (32 : Int32)), (.int p1)])) _
        refine XS.icmpNo X0.here hx rfl (hb hby d1_3) rfl (XT.ii_eq_f c3_2) ?_
        show Steps p.tables e below (s₁.setTop (mkF m 6 #[.val (.int p1)] [])) _
        refine XS.iloadN X0.here hx rfl (hb hby d1_6) rfl ?_
        show Steps p.tables e below (s₁.setTop (mkF m 7 #[.val (.int p1)] [(.int p1)])) _
        refine XS.bipush X0.here hx rfl (hb hby d1_7) ?_
        exact k)
    by_cases c9_5 : p1 = (10 : Int32)
    · skip
      have pre6 : own_Go p e below (s₁.setTop (entryFrame m #[(.int p1)] 1)) (s₁.setTop (mkF m 29 #[.val (.int p1)] [(.int (1 : Int32))])) := fun t k => pre4 t (by
          show Steps p.tables e below (s₁.setTop (mkF m 9 #[.val (.int p1)] [(.int (10 : Int32)), (.int p1)])) _
          refine XS.icmpYes X0.here hx rfl (pc0 := 9) (pc' := 24) rfl (hb hby d1_9) rfl (XT.ii_eq_t c9_5) (by decide) (by decide) ?_
          show Steps p.tables e below (s₁.setTop (mkF m 24 #[.val (.int p1)] [])) _
          refine XS.iconst X0.here hx rfl (hb hby d1_24) ?_
          show Steps p.tables e below (s₁.setTop (mkF m 25 #[.val (.int p1)] [(.int (1 : Int32))])) _
          refine XS.goto X0.here hx rfl (pc0 := 25) (pc' := 29) rfl (hb hby d1_25) (by decide) (by decide) ?_
          exact k)
      obtain ⟨fs, hr, hrun, hended, hW, hsame⟩ := X0.leave (v := some (.int (1 : Int32))) (fun h => by rw [Bd.returns] at h; cases h)
      refine ⟨_, _, pre6 _ ?_, hrun, hended, _, _, rfl, ?_, ⟨_, rfl⟩, hW, hsame.mono (by decide) (by decide)⟩
      · show Steps p.tables e below (s₁.setTop (mkF m 29 #[.val (.int p1)] [(.int (1 : Int32))])) _
        exact retN X0 hx (t := .boolean) Bd.returns (by simp) (hb hby d1_29) hr
      · show Q1 Z p1 h0 n0 _ s₁.heap _
        rw [e0]
        exact ⟨rfl, N0, rfl⟩
    · skip
      have pre7 : own_Go p e below (s₁.setTop (entryFrame m #[(.int p1)] 1)) (s₁.setTop (mkF m 15 #[.val (.int p1)] [(.int (9 : Int32)), (.int p1)])) := fun t k => pre4 t (by
          show Steps p.tables e below (s₁.setTop (mkF m 9 #[.val (.int p1)] [(.int (10 : Int32)), (.int p1)])) _
          refine XS.icmpNo X0.here hx rfl (hb hby d1_9) rfl (XT.ii_eq_f c9_5) ?_
          show Steps p.tables e below (s₁.setTop (mkF m 12 #[.val (.int p1)] [])) _
          refine XS.iloadN X0.here hx rfl (hb hby d1_12) rfl ?_
          show Steps p.tables e below (s₁.setTop (mkF m 13 #[.val (.int p1)] [(.int p1)])) _
          refine XS.bipush X0.here hx rfl (hb hby d1_13) ?_
          exact k)
      by_cases c15_8 : p1 = (9 : Int32)
      · skip
        have pre9 : own_Go p e below (s₁.setTop (entryFrame m #[(.int p1)] 1)) (s₁.setTop (mkF m 29 #[.val (.int p1)] [(.int (1 : Int32))])) := fun t k => pre7 t (by
            show Steps p.tables e below (s₁.setTop (mkF m 15 #[.val (.int p1)] [(.int (9 : Int32)), (.int p1)])) _
            refine XS.icmpYes X0.here hx rfl (pc0 := 15) (pc' := 24) rfl (hb hby d1_15) rfl (XT.ii_eq_t c15_8) (by decide) (by decide) ?_
            show Steps p.tables e below (s₁.setTop (mkF m 24 #[.val (.int p1)] [])) _
            refine XS.iconst X0.here hx rfl (hb hby d1_24) ?_
            show Steps p.tables e below (s₁.setTop (mkF m 25 #[.val (.int p1)] [(.int (1 : Int32))])) _
            refine XS.goto X0.here hx rfl (pc0 := 25) (pc' := 29) rfl (hb hby d1_25) (by decide) (by decide) ?_
            exact k)
        obtain ⟨fs, hr, hrun, hended, hW, hsame⟩ := X0.leave (v := some (.int (1 : Int32))) (fun h => by rw [Bd.returns] at h; cases h)
        refine ⟨_, _, pre9 _ ?_, hrun, hended, _, _, rfl, ?_, ⟨_, rfl⟩, hW, hsame.mono (by decide) (by decide)⟩
        · show Steps p.tables e below (s₁.setTop (mkF m 29 #[.val (.int p1)] [(.int (1 : Int32))])) _
          exact retN X0 hx (t := .boolean) Bd.returns (by simp) (hb hby d1_29) hr
        · show Q1 Z p1 h0 n0 _ s₁.heap _
          rw [e0]
          exact ⟨rfl, N0, rfl⟩
      · skip
        have pre10 : own_Go p e below (s₁.setTop (entryFrame m #[(.int p1)] 1)) (s₁.setTop (mkF m 21 #[.val (.int p1)] [(.int (13 : Int32)), (.int p1)])) := fun t k => pre7 t (by
            show Steps p.tables e below (s₁.setTop (mkF m 15 #[.val (.int p1)] [(.int (9 : Int32)), (.int p1)])) _
            refine XS.icmpNo X0.here hx rfl (hb hby d1_15) rfl (XT.ii_eq_f c15_8) ?_
            show Steps p.tables e below (s₁.setTop (mkF m 18 #[.val (.int p1)] [])) _
            refine XS.iloadN X0.here hx rfl (hb hby d1_18) rfl ?_
            show Steps p.tables e below (s₁.setTop (mkF m 19 #[.val (.int p1)] [(.int p1)])) _
            refine XS.bipush X0.here hx rfl (hb hby d1_19) ?_
            exact k)
        by_cases c21_11 : p1 = (13 : Int32)
        · skip
          have pre12 : own_Go p e below (s₁.setTop (entryFrame m #[(.int p1)] 1)) (s₁.setTop (mkF m 29 #[.val (.int p1)] [(.int (1 : Int32))])) := fun t k => pre10 t (by
              show Steps p.tables e below (s₁.setTop (mkF m 21 #[.val (.int p1)] [(.int (13 : Int32)), (.int p1)])) _
              refine XS.icmpNo X0.here hx rfl (hb hby d1_21) rfl (XT.ii_ne_f c21_11) ?_
              show Steps p.tables e below (s₁.setTop (mkF m 24 #[.val (.int p1)] [])) _
              refine XS.iconst X0.here hx rfl (hb hby d1_24) ?_
              show Steps p.tables e below (s₁.setTop (mkF m 25 #[.val (.int p1)] [(.int (1 : Int32))])) _
              refine XS.goto X0.here hx rfl (pc0 := 25) (pc' := 29) rfl (hb hby d1_25) (by decide) (by decide) ?_
              exact k)
          obtain ⟨fs, hr, hrun, hended, hW, hsame⟩ := X0.leave (v := some (.int (1 : Int32))) (fun h => by rw [Bd.returns] at h; cases h)
          refine ⟨_, _, pre12 _ ?_, hrun, hended, _, _, rfl, ?_, ⟨_, rfl⟩, hW, hsame.mono (by decide) (by decide)⟩
          · show Steps p.tables e below (s₁.setTop (mkF m 29 #[.val (.int p1)] [(.int (1 : Int32))])) _
            exact retN X0 hx (t := .boolean) Bd.returns (by simp) (hb hby d1_29) hr
          · show Q1 Z p1 h0 n0 _ s₁.heap _
            rw [e0]
            exact ⟨rfl, N0, rfl⟩
        · skip
          exact absurd hc (fun hq => by rcases hq with q | q | q | q <;> (rw [q] at c3_2 c9_5 c15_8 c21_11; revert c3_2 c9_5 c15_8 c21_11; decide))
def Q2 (Z : State) (p1 : Int32) (h0 : Heap) (n0 : Nat) (v : Option Value) (h : Heap) (L : List Loc) : Prop := v = some (.int (0 : Int32)) ∧ Fr n0 L ∧ h = h0
theorem d2_0 : decode prog_95_method_6_code 0 = .ok (.iload_n 0, 1) := by decide +kernel
theorem d2_1 : decode prog_95_method_6_code 1 = .ok (.bipush 32, 2) := by decide +kernel
theorem d2_3 : decode prog_95_method_6_code 3 = .ok (.if_icmp .eq 21, 3) := by decide +kernel
theorem d2_6 : decode prog_95_method_6_code 6 = .ok (.iload_n 0, 1) := by decide +kernel
theorem d2_7 : decode prog_95_method_6_code 7 = .ok (.bipush 10, 2) := by decide +kernel
theorem d2_9 : decode prog_95_method_6_code 9 = .ok (.if_icmp .eq 15, 3) := by decide +kernel
theorem d2_12 : decode prog_95_method_6_code 12 = .ok (.iload_n 0, 1) := by decide +kernel
theorem d2_13 : decode prog_95_method_6_code 13 = .ok (.bipush 9, 2) := by decide +kernel
theorem d2_15 : decode prog_95_method_6_code 15 = .ok (.if_icmp .eq 9, 3) := by decide +kernel
theorem d2_18 : decode prog_95_method_6_code 18 = .ok (.iload_n 0, 1) := by decide +kernel
theorem d2_19 : decode prog_95_method_6_code 19 = .ok (.bipush 13, 2) := by decide +kernel
theorem d2_21 : decode prog_95_method_6_code 21 = .ok (.if_icmp .ne 7, 3) := by decide +kernel
theorem d2_24 : decode prog_95_method_6_code 24 = .ok (.iconst 1, 1) := by decide +kernel
theorem d2_25 : decode prog_95_method_6_code 25 = .ok (.goto 4, 3) := by decide +kernel
theorem d2_28 : decode prog_95_method_6_code 28 = .ok (.iconst 0, 1) := by decide +kernel
theorem d2_29 : decode prog_95_method_6_code 29 = .ok (.ireturn, 1) := by decide +kernel
theorem pn_2 : plainName "com/example/libxdm/libxdm/xml/XmlChars" = true := by first | (simp [plainName, overriddenIn]; done) | decide +kernel
theorem ef_2 (m : MethodId) (x0 : Int32) : entryFrame m #[(.int x0)] 1 = mkF m 0 #[.val (.int x0)] [] := by first | (simp [entryFrame, mkF, argsToLocals, Value.category]; done) | rfl
set_option maxRecDepth 65536 in
set_option maxHeartbeats 40000000 in
theorem rm2 (l : Launch) (Z : State) (a0 : Array Value) (hw : ∀ d ∈ tables_1, d.before a0 Z = true) (ws : List Jvm.Cond) (p1 : Int32) (h0 : Heap) (n0 : Nat) (Z0 : n0 ≤ h0.size) (hn : ¬ (p1 = 32 ∨ p1 = 10 ∨ p1 = 9 ∨ p1 = 13)) :
    MetFree l (⟨"com/example/libxdm/libxdm/xml/XmlChars", "isSpace", "(I)Z"⟩ : MethodName) (head1 (Jvm.Cond.code (⟨"com/example/libxdm/libxdm/xml/XmlChars", "isSpace", "(I)Z"⟩ : MethodName) prog_95_method_6_code 1 (some .boolean) :: ws) ({ frames := 0, cells := 0, slots := 0, locals := 0 } : Room)) (fun a U => a = #[(.int p1)] ∧ Z.Warmed39 U.vm ∧ U.heap = h0) (fun _ _ _ _ _ => True) (fun _ U o U' => ∃ v L, o = .returned v ∧ Q2 Z p1 h0 n0 v U'.heap L ∧ FrameEnd U o U' L ({ frames := 0, cells := 0, slots := 0, locals := 0 } : Room).cells ({ frames := 0, cells := 0, slots := 0, locals := 0 } : Room).slots) := by
  refine MetFree.of_bodySF (plainFor_of_name pn_2) hisR ?_
  intro p e s m args below meth c s₁ Bd hml0 hP hK
  obtain ⟨rfl, hZ, hh⟩ := hP
  have hx := Bd.exec
  have hby := Bd.bytes
  have hml : c.maxLocals = 1 := hml0
  have hown : s.vm.findClass "com/example/libxdm/libxdm/xml/XmlChars" = some m.cls := findClass_of_methodNamed Bd.named
  have hnm := (name_of_methodNamed Bd.named Bd.method).1
  have X0 : Stand p l e ({ frames := 0, cells := 0, slots := 0, locals := 0 } : Room) s m #[(.int p1)] below meth c s₁ [] 0 0 := Stand.of_body Bd
  have e0 : s₁.heap = h0 := by rw [← hh, Bd.state]; rfl
  have N0 := Fr.nil n0
  have pre0 : own_Go p e below (s₁.setTop (entryFrame m #[(.int p1)] 1)) (s₁.setTop (mkF m 0 #[.val (.int p1)] [])) := fun t k => castTop (ef_2 m p1) k
  have pre1 : own_Go p e below (s₁.setTop (entryFrame m #[(.int p1)] 1)) (s₁.setTop (mkF m 3 #[.val (.int p1)] [(.int (32 : Int32)), (.int p1)])) := fun t k => pre0 t (by
      show Steps p.tables e below (s₁.setTop (mkF m 0 #[.val (.int p1)] [])) _
      refine XS.iloadN X0.here hx rfl (hb hby d2_0) rfl ?_
      show Steps p.tables e below (s₁.setTop (mkF m 1 #[.val (.int p1)] [(.int p1)])) _
      refine XS.bipush X0.here hx rfl (hb hby d2_1) ?_
      exact k)
  by_cases c3_2 : p1 = (32 : Int32)
  · skip
    exact absurd (c3_2 : p1 = _) (fun q => hn (by rw [q]; decide))
  · skip
    have pre3 : own_Go p e below (s₁.setTop (entryFrame m #[(.int p1)] 1)) (s₁.setTop (mkF m 9 #[.val (.int p1)] [(.int (10 : Int32)), (.int p1)])) := fun t k => pre1 t (by
        show Steps p.tables e below (s₁.setTop (mkF m 3 #[.val (.int p1)] [(.int (32 : Int32)), (.int p1)])) _
        refine XS.icmpNo X0.here hx rfl (hb hby d2_3) rfl (XT.ii_eq_f c3_2) ?_
        show Steps p.tables e below (s₁.setTop (mkF m 6 #[.val (.int p1)] [])) _
        refine XS.iloadN X0.here hx rfl (hb hby d2_6) rfl ?_
        show Steps p.tables e below (s₁.setTop (mkF m 7 #[.val (.int p1)] [(.int p1)])) _
        refine XS.bipush X0.here hx rfl (hb hby d2_7) ?_
        exact k)
    by_cases c9_4 : p1 = (10 : Int32)
    · skip
      exact absurd (c9_4 : p1 = _) (fun q => hn (by rw [q]; decide))
    · skip
      have pre5 : own_Go p e below (s₁.setTop (entryFrame m #[(.int p1)] 1)) (s₁.setTop (mkF m 15 #[.val (.int p1)] [(.int (9 : Int32)), (.int p1)])) := fun t k => pre3 t (by
          show Steps p.tables e below (s₁.setTop (mkF m 9 #[.val (.int p1)] [(.int (10 : Int32)), (.int p1)])) _
          refine XS.icmpNo X0.here hx rfl (hb hby d2_9) rfl (XT.ii_eq_f c9_4) ?_
          show Steps p.tables e below (s₁.setTop (mkF m 12 #[.val (.int p1)] [])) _
          refine XS.iloadN X0.here hx rfl (hb hby d2_12) rfl ?_
          show Steps p.tables e below (s₁.setTop (mkF m 13 #[.val (.int p1)] [(.int p1)])) _
          refine XS.bipush X0.here hx rfl (hb hby d2_13) ?_
          exact k)
      by_cases c15_6 : p1 = (9 : Int32)
      · skip
        exact absurd (c15_6 : p1 = _) (fun q => hn (by rw [q]; decide))
      · skip
        have pre7 : own_Go p e below (s₁.setTop (entryFrame m #[(.int p1)] 1)) (s₁.setTop (mkF m 21 #[.val (.int p1)] [(.int (13 : Int32)), (.int p1)])) := fun t k => pre5 t (by
            show Steps p.tables e below (s₁.setTop (mkF m 15 #[.val (.int p1)] [(.int (9 : Int32)), (.int p1)])) _
            refine XS.icmpNo X0.here hx rfl (hb hby d2_15) rfl (XT.ii_eq_f c15_6) ?_
            show Steps p.tables e below (s₁.setTop (mkF m 18 #[.val (.int p1)] [])) _
            refine XS.iloadN X0.here hx rfl (hb hby d2_18) rfl ?_
            show Steps p.tables e below (s₁.setTop (mkF m 19 #[.val (.int p1)] [(.int p1)])) _
            refine XS.bipush X0.here hx rfl (hb hby d2_19) ?_
            exact k)
        by_cases c21_8 : p1 = (13 : Int32)
        · skip
          exact absurd (c21_8 : p1 = _) (fun q => hn (by rw [q]; decide))
        · skip
          have pre9 : own_Go p e below (s₁.setTop (entryFrame m #[(.int p1)] 1)) (s₁.setTop (mkF m 29 #[.val (.int p1)] [(.int (0 : Int32))])) := fun t k => pre7 t (by
              show Steps p.tables e below (s₁.setTop (mkF m 21 #[.val (.int p1)] [(.int (13 : Int32)), (.int p1)])) _
              refine XS.icmpYes X0.here hx rfl (pc0 := 21) (pc' := 28) rfl (hb hby d2_21) rfl (XT.ii_ne_t c21_8) (by decide) (by decide) ?_
              show Steps p.tables e below (s₁.setTop (mkF m 28 #[.val (.int p1)] [])) _
              refine XS.iconst X0.here hx rfl (hb hby d2_28) ?_
              exact k)
          obtain ⟨fs, hr, hrun, hended, hW, hsame⟩ := X0.leave (v := some (.int (0 : Int32))) (fun h => by rw [Bd.returns] at h; cases h)
          refine ⟨_, _, pre9 _ ?_, hrun, hended, _, _, rfl, ?_, ⟨_, rfl⟩, hW, hsame.mono (by decide) (by decide)⟩
          · show Steps p.tables e below (s₁.setTop (mkF m 29 #[.val (.int p1)] [(.int (0 : Int32))])) _
            exact retN X0 hx (t := .boolean) Bd.returns (by simp) (hb hby d2_29) hr
          · show Q2 Z p1 h0 n0 _ s₁.heap _
            rw [e0]
            exact ⟨rfl, N0, rfl⟩
def Q3 (Z : State) (p1 p2 : Int32) (h0 : Heap) (n0 : Nat) (v : Option Value) (h : Heap) (L : List Loc) : Prop := v = some (.int (1 : Int32)) ∧ Fr n0 L ∧ h = h0
theorem d3_0 : decode prog_95_method_2_code 0 = .ok (.iload_n 0, 1) := by decide +kernel
theorem d3_1 : decode prog_95_method_2_code 1 = .ok (.bipush 32, 2) := by decide +kernel
theorem d3_3 : decode prog_95_method_2_code 3 = .ok (.if_icmp .ge 43, 3) := by decide +kernel
theorem d3_6 : decode prog_95_method_2_code 6 = .ok (.iload_n 1, 1) := by decide +kernel
theorem d3_7 : decode prog_95_method_2_code 7 = .ok (.ifCond .eq 15, 3) := by decide +kernel
theorem d3_10 : decode prog_95_method_2_code 10 = .ok (.iload_n 0, 1) := by decide +kernel
theorem d3_11 : decode prog_95_method_2_code 11 = .ok (.ifCond .le 7, 3) := by decide +kernel
theorem d3_14 : decode prog_95_method_2_code 14 = .ok (.iconst 1, 1) := by decide +kernel
theorem d3_15 : decode prog_95_method_2_code 15 = .ok (.goto 30, 3) := by decide +kernel
theorem d3_18 : decode prog_95_method_2_code 18 = .ok (.iconst 0, 1) := by decide +kernel
theorem d3_19 : decode prog_95_method_2_code 19 = .ok (.goto 26, 3) := by decide +kernel
theorem d3_22 : decode prog_95_method_2_code 22 = .ok (.iload_n 0, 1) := by decide +kernel
theorem d3_23 : decode prog_95_method_2_code 23 = .ok (.bipush 9, 2) := by decide +kernel
theorem d3_25 : decode prog_95_method_2_code 25 = .ok (.if_icmp .eq 15, 3) := by decide +kernel
theorem d3_28 : decode prog_95_method_2_code 28 = .ok (.iload_n 0, 1) := by decide +kernel
theorem d3_29 : decode prog_95_method_2_code 29 = .ok (.bipush 10, 2) := by decide +kernel
theorem d3_31 : decode prog_95_method_2_code 31 = .ok (.if_icmp .eq 9, 3) := by decide +kernel
theorem d3_34 : decode prog_95_method_2_code 34 = .ok (.iload_n 0, 1) := by decide +kernel
theorem d3_35 : decode prog_95_method_2_code 35 = .ok (.bipush 13, 2) := by decide +kernel
theorem d3_37 : decode prog_95_method_2_code 37 = .ok (.if_icmp .ne 7, 3) := by decide +kernel
theorem d3_40 : decode prog_95_method_2_code 40 = .ok (.iconst 1, 1) := by decide +kernel
theorem d3_41 : decode prog_95_method_2_code 41 = .ok (.goto 4, 3) := by decide +kernel
theorem d3_44 : decode prog_95_method_2_code 44 = .ok (.iconst 0, 1) := by decide +kernel
theorem d3_45 : decode prog_95_method_2_code 45 = .ok (.ireturn, 1) := by decide +kernel
theorem d3_46 : decode prog_95_method_2_code 46 = .ok (.iload_n 0, 1) := by decide +kernel
theorem d3_47 : decode prog_95_method_2_code 47 = .ok (.ldc 7, 2) := by decide +kernel
theorem d3_49 : decode prog_95_method_2_code 49 = .ok (.if_icmp .le 27, 3) := by decide +kernel
theorem d3_52 : decode prog_95_method_2_code 52 = .ok (.iload_n 0, 1) := by decide +kernel
theorem d3_53 : decode prog_95_method_2_code 53 = .ok (.ldc 8, 2) := by decide +kernel
theorem d3_55 : decode prog_95_method_2_code 55 = .ok (.if_icmp .lt 9, 3) := by decide +kernel
theorem d3_58 : decode prog_95_method_2_code 58 = .ok (.iload_n 0, 1) := by decide +kernel
theorem d3_59 : decode prog_95_method_2_code 59 = .ok (.ldc 9, 2) := by decide +kernel
theorem d3_61 : decode prog_95_method_2_code 61 = .ok (.if_icmp .le 15, 3) := by decide +kernel
theorem d3_64 : decode prog_95_method_2_code 64 = .ok (.iload_n 0, 1) := by decide +kernel
theorem d3_65 : decode prog_95_method_2_code 65 = .ok (.ldc 10, 2) := by decide +kernel
theorem d3_67 : decode prog_95_method_2_code 67 = .ok (.if_icmp .lt 13, 3) := by decide +kernel
theorem d3_70 : decode prog_95_method_2_code 70 = .ok (.iload_n 0, 1) := by decide +kernel
theorem d3_71 : decode prog_95_method_2_code 71 = .ok (.ldc 11, 2) := by decide +kernel
theorem d3_73 : decode prog_95_method_2_code 73 = .ok (.if_icmp .gt 7, 3) := by decide +kernel
theorem d3_76 : decode prog_95_method_2_code 76 = .ok (.iconst 1, 1) := by decide +kernel
theorem d3_77 : decode prog_95_method_2_code 77 = .ok (.goto 4, 3) := by decide +kernel
theorem d3_80 : decode prog_95_method_2_code 80 = .ok (.iconst 0, 1) := by decide +kernel
theorem d3_81 : decode prog_95_method_2_code 81 = .ok (.ireturn, 1) := by decide +kernel
theorem pn_3 : plainName "com/example/libxdm/libxdm/xml/XmlChars" = true := by first | (simp [plainName, overriddenIn]; done) | decide +kernel
theorem ef_3 (m : MethodId) (x0 : Int32) (x1 : Int32) : entryFrame m #[(.int x0), (.int x1)] 2 = mkF m 0 #[.val (.int x0), .val (.int x1)] [] := by first | (simp [entryFrame, mkF, argsToLocals, Value.category]; done) | rfl
set_option maxRecDepth 65536 in
set_option maxHeartbeats 40000000 in
theorem rm3 (l : Launch) (Z : State) (a0 : Array Value) (hw : ∀ d ∈ tables_1, d.before a0 Z = true) (ws : List Jvm.Cond) (p1 p2 : Int32) (h0 : Heap) (n0 : Nat) (Z0 : n0 ≤ h0.size) (hc : (p1 = 32 ∨ p1 = 10 ∨ p1 = 9 ∨ p1 = 13)) :
    MetFree l (⟨"com/example/libxdm/libxdm/xml/XmlChars", "isChar", "(IZ)Z"⟩ : MethodName) (head1 (Jvm.Cond.code (⟨"com/example/libxdm/libxdm/xml/XmlChars", "isChar", "(IZ)Z"⟩ : MethodName) prog_95_method_2_code 2 (some .boolean) :: ws) ({ frames := 0, cells := 0, slots := 0, locals := 0 } : Room)) (fun a U => a = #[(.int p1), (.int p2)] ∧ Z.Warmed39 U.vm ∧ U.heap = h0) (fun _ _ _ _ _ => True) (fun _ U o U' => ∃ v L, o = .returned v ∧ Q3 Z p1 p2 h0 n0 v U'.heap L ∧ FrameEnd U o U' L ({ frames := 0, cells := 0, slots := 0, locals := 0 } : Room).cells ({ frames := 0, cells := 0, slots := 0, locals := 0 } : Room).slots) := by
  refine MetFree.of_bodySF (plainFor_of_name pn_3) hisR ?_
  intro p e s m args below meth c s₁ Bd hml0 hP hK
  obtain ⟨rfl, hZ, hh⟩ := hP
  have hx := Bd.exec
  have hby := Bd.bytes
  have hml : c.maxLocals = 2 := hml0
  have hown : s.vm.findClass "com/example/libxdm/libxdm/xml/XmlChars" = some m.cls := findClass_of_methodNamed Bd.named
  have hnm := (name_of_methodNamed Bd.named Bd.method).1
  have X0 : Stand p l e ({ frames := 0, cells := 0, slots := 0, locals := 0 } : Room) s m #[(.int p1), (.int p2)] below meth c s₁ [] 0 0 := Stand.of_body Bd
  have e0 : s₁.heap = h0 := by rw [← hh, Bd.state]; rfl
  have N0 := Fr.nil n0
  have pre0 : own_Go p e below (s₁.setTop (entryFrame m #[(.int p1), (.int p2)] 2)) (s₁.setTop (mkF m 0 #[.val (.int p1), .val (.int p2)] [])) := fun t k => castTop (ef_3 m p1 p2) k
  have pre1 : own_Go p e below (s₁.setTop (entryFrame m #[(.int p1), (.int p2)] 2)) (s₁.setTop (mkF m 3 #[.val (.int p1), .val (.int p2)] [(.int (32 : Int32)), (.int p1)])) := fun t k => pre0 t (by
      show Steps p.tables e below (s₁.setTop (mkF m 0 #[.val (.int p1), .val (.int p2)] [])) _
      refine XS.iloadN X0.here hx rfl (hb hby d3_0) rfl ?_
      show Steps p.tables e below (s₁.setTop (mkF m 1 #[.val (.int p1), .val (.int p2)] [(.int p1)])) _
      refine XS.bipush X0.here hx rfl (hb hby d3_1) ?_
      exact k)
  by_cases c3_2 : p1 < (32 : Int32)
  · skip
    have pre3 : own_Go p e below (s₁.setTop (entryFrame m #[(.int p1), (.int p2)] 2)) (s₁.setTop (mkF m 7 #[.val (.int p1), .val (.int p2)] [(.int p2)])) := fun t k => pre1 t (by
        show Steps p.tables e below (s₁.setTop (mkF m 3 #[.val (.int p1), .val (.int p2)] [(.int (32 : Int32)), (.int p1)])) _
        refine XS.icmpNo X0.here hx rfl (hb hby d3_3) rfl (XT.ii_ge_f c3_2) ?_
        show Steps p.tables e below (s₁.setTop (mkF m 6 #[.val (.int p1), .val (.int p2)] [])) _
        refine XS.iloadN X0.here hx rfl (hb hby d3_6) rfl ?_
        exact k)
    by_cases c7_4 : p2 = (0 : Int32)
    · skip
      have pre5 : own_Go p e below (s₁.setTop (entryFrame m #[(.int p1), (.int p2)] 2)) (s₁.setTop (mkF m 25 #[.val (.int p1), .val (.int p2)] [(.int (9 : Int32)), (.int p1)])) := fun t k => pre3 t (by
          show Steps p.tables e below (s₁.setTop (mkF m 7 #[.val (.int p1), .val (.int p2)] [(.int p2)])) _
          refine XS.ifYes X0.here hx rfl (pc0 := 7) (pc' := 22) rfl (hb hby d3_7) rfl (XT.i0_eq_t c7_4) (by decide) (by decide) ?_
          show Steps p.tables e below (s₁.setTop (mkF m 22 #[.val (.int p1), .val (.int p2)] [])) _
          refine XS.iloadN X0.here hx rfl (hb hby d3_22) rfl ?_
          show Steps p.tables e below (s₁.setTop (mkF m 23 #[.val (.int p1), .val (.int p2)] [(.int p1)])) _
          refine XS.bipush X0.here hx rfl (hb hby d3_23) ?_
          exact k)
      by_cases c25_6 : p1 = (9 : Int32)
      · skip
        have pre7 : own_Go p e below (s₁.setTop (entryFrame m #[(.int p1), (.int p2)] 2)) (s₁.setTop (mkF m 45 #[.val (.int p1), .val (.int p2)] [(.int (1 : Int32))])) := fun t k => pre5 t (by
            show Steps p.tables e below (s₁.setTop (mkF m 25 #[.val (.int p1), .val (.int p2)] [(.int (9 : Int32)), (.int p1)])) _
            refine XS.icmpYes X0.here hx rfl (pc0 := 25) (pc' := 40) rfl (hb hby d3_25) rfl (XT.ii_eq_t c25_6) (by decide) (by decide) ?_
            show Steps p.tables e below (s₁.setTop (mkF m 40 #[.val (.int p1), .val (.int p2)] [])) _
            refine XS.iconst X0.here hx rfl (hb hby d3_40) ?_
            show Steps p.tables e below (s₁.setTop (mkF m 41 #[.val (.int p1), .val (.int p2)] [(.int (1 : Int32))])) _
            refine XS.goto X0.here hx rfl (pc0 := 41) (pc' := 45) rfl (hb hby d3_41) (by decide) (by decide) ?_
            exact k)
        obtain ⟨fs, hr, hrun, hended, hW, hsame⟩ := X0.leave (v := some (.int (1 : Int32))) (fun h => by rw [Bd.returns] at h; cases h)
        refine ⟨_, _, pre7 _ ?_, hrun, hended, _, _, rfl, ?_, ⟨_, rfl⟩, hW, hsame.mono (by decide) (by decide)⟩
        · show Steps p.tables e below (s₁.setTop (mkF m 45 #[.val (.int p1), .val (.int p2)] [(.int (1 : Int32))])) _
          exact retN X0 hx (t := .boolean) Bd.returns (by simp) (hb hby d3_45) hr
        · show Q3 Z p1 p2 h0 n0 _ s₁.heap _
          rw [e0]
          exact ⟨rfl, N0, rfl⟩
      · skip
        have pre8 : own_Go p e below (s₁.setTop (entryFrame m #[(.int p1), (.int p2)] 2)) (s₁.setTop (mkF m 31 #[.val (.int p1), .val (.int p2)] [(.int (10 : Int32)), (.int p1)])) := fun t k => pre5 t (by
            show Steps p.tables e below (s₁.setTop (mkF m 25 #[.val (.int p1), .val (.int p2)] [(.int (9 : Int32)), (.int p1)])) _
            refine XS.icmpNo X0.here hx rfl (hb hby d3_25) rfl (XT.ii_eq_f c25_6) ?_
            show Steps p.tables e below (s₁.setTop (mkF m 28 #[.val (.int p1), .val (.int p2)] [])) _
            refine XS.iloadN X0.here hx rfl (hb hby d3_28) rfl ?_
            show Steps p.tables e below (s₁.setTop (mkF m 29 #[.val (.int p1), .val (.int p2)] [(.int p1)])) _
            refine XS.bipush X0.here hx rfl (hb hby d3_29) ?_
            exact k)
        by_cases c31_9 : p1 = (10 : Int32)
        · skip
          have pre10 : own_Go p e below (s₁.setTop (entryFrame m #[(.int p1), (.int p2)] 2)) (s₁.setTop (mkF m 45 #[.val (.int p1), .val (.int p2)] [(.int (1 : Int32))])) := fun t k => pre8 t (by
              show Steps p.tables e below (s₁.setTop (mkF m 31 #[.val (.int p1), .val (.int p2)] [(.int (10 : Int32)), (.int p1)])) _
              refine XS.icmpYes X0.here hx rfl (pc0 := 31) (pc' := 40) rfl (hb hby d3_31) rfl (XT.ii_eq_t c31_9) (by decide) (by decide) ?_
              show Steps p.tables e below (s₁.setTop (mkF m 40 #[.val (.int p1), .val (.int p2)] [])) _
              refine XS.iconst X0.here hx rfl (hb hby d3_40) ?_
              show Steps p.tables e below (s₁.setTop (mkF m 41 #[.val (.int p1), .val (.int p2)] [(.int (1 : Int32))])) _
              refine XS.goto X0.here hx rfl (pc0 := 41) (pc' := 45) rfl (hb hby d3_41) (by decide) (by decide) ?_
              exact k)
          obtain ⟨fs, hr, hrun, hended, hW, hsame⟩ := X0.leave (v := some (.int (1 : Int32))) (fun h => by rw [Bd.returns] at h; cases h)
          refine ⟨_, _, pre10 _ ?_, hrun, hended, _, _, rfl, ?_, ⟨_, rfl⟩, hW, hsame.mono (by decide) (by decide)⟩
          · show Steps p.tables e below (s₁.setTop (mkF m 45 #[.val (.int p1), .val (.int p2)] [(.int (1 : Int32))])) _
            exact retN X0 hx (t := .boolean) Bd.returns (by simp) (hb hby d3_45) hr
          · show Q3 Z p1 p2 h0 n0 _ s₁.heap _
            rw [e0]
            exact ⟨rfl, N0, rfl⟩
        · skip
          have pre11 : own_Go p e below (s₁.setTop (entryFrame m #[(.int p1), (.int p2)] 2)) (s₁.setTop (mkF m 37 #[.val (.int p1), .val (.int p2)] [(.int (13 : Int32)), (.int p1)])) := fun t k => pre8 t (by
              show Steps p.tables e below (s₁.setTop (mkF m 31 #[.val (.int p1), .val (.int p2)] [(.int (10 : Int32)), (.int p1)])) _
              refine XS.icmpNo X0.here hx rfl (hb hby d3_31) rfl (XT.ii_eq_f c31_9) ?_
              show Steps p.tables e below (s₁.setTop (mkF m 34 #[.val (.int p1), .val (.int p2)] [])) _
              refine XS.iloadN X0.here hx rfl (hb hby d3_34) rfl ?_
              show Steps p.tables e below (s₁.setTop (mkF m 35 #[.val (.int p1), .val (.int p2)] [(.int p1)])) _
              refine XS.bipush X0.here hx rfl (hb hby d3_35) ?_
              exact k)
          by_cases c37_12 : p1 = (13 : Int32)
          · skip
            have pre13 : own_Go p e below (s₁.setTop (entryFrame m #[(.int p1), (.int p2)] 2)) (s₁.setTop (mkF m 45 #[.val (.int p1), .val (.int p2)] [(.int (1 : Int32))])) := fun t k => pre11 t (by
                show Steps p.tables e below (s₁.setTop (mkF m 37 #[.val (.int p1), .val (.int p2)] [(.int (13 : Int32)), (.int p1)])) _
                refine XS.icmpNo X0.here hx rfl (hb hby d3_37) rfl (XT.ii_ne_f c37_12) ?_
                show Steps p.tables e below (s₁.setTop (mkF m 40 #[.val (.int p1), .val (.int p2)] [])) _
                refine XS.iconst X0.here hx rfl (hb hby d3_40) ?_
                show Steps p.tables e below (s₁.setTop (mkF m 41 #[.val (.int p1), .val (.int p2)] [(.int (1 : Int32))])) _
                refine XS.goto X0.here hx rfl (pc0 := 41) (pc' := 45) rfl (hb hby d3_41) (by decide) (by decide) ?_
                exact k)
            obtain ⟨fs, hr, hrun, hended, hW, hsame⟩ := X0.leave (v := some (.int (1 : Int32))) (fun h => by rw [Bd.returns] at h; cases h)
            refine ⟨_, _, pre13 _ ?_, hrun, hended, _, _, rfl, ?_, ⟨_, rfl⟩, hW, hsame.mono (by decide) (by decide)⟩
            · show Steps p.tables e below (s₁.setTop (mkF m 45 #[.val (.int p1), .val (.int p2)] [(.int (1 : Int32))])) _
              exact retN X0 hx (t := .boolean) Bd.returns (by simp) (hb hby d3_45) hr
            · show Q3 Z p1 p2 h0 n0 _ s₁.heap _
              rw [e0]
              exact ⟨rfl, N0, rfl⟩
          · skip
            exact absurd hc (fun hq => by rcases hq with q | q | q | q <;> (rw [q] at c3_2 c25_6 c31_9 c37_12; revert c3_2 c25_6 c31_9 c37_12; decide))
    · skip
      have pre14 : own_Go p e below (s₁.setTop (entryFrame m #[(.int p1), (.int p2)] 2)) (s₁.setTop (mkF m 11 #[.val (.int p1), .val (.int p2)] [(.int p1)])) := fun t k => pre3 t (by
          show Steps p.tables e below (s₁.setTop (mkF m 7 #[.val (.int p1), .val (.int p2)] [(.int p2)])) _
          refine XS.ifNo X0.here hx rfl (hb hby d3_7) rfl (XT.i0_eq_f c7_4) ?_
          show Steps p.tables e below (s₁.setTop (mkF m 10 #[.val (.int p1), .val (.int p2)] [])) _
          refine XS.iloadN X0.here hx rfl (hb hby d3_10) rfl ?_
          exact k)
      by_cases c11_15 : (0 : Int32) < p1
      · skip
        have pre16 : own_Go p e below (s₁.setTop (entryFrame m #[(.int p1), (.int p2)] 2)) (s₁.setTop (mkF m 45 #[.val (.int p1), .val (.int p2)] [(.int (1 : Int32))])) := fun t k => pre14 t (by
            show Steps p.tables e below (s₁.setTop (mkF m 11 #[.val (.int p1), .val (.int p2)] [(.int p1)])) _
            refine XS.ifNo X0.here hx rfl (hb hby d3_11) rfl (XT.i0_le_f c11_15) ?_
            show Steps p.tables e below (s₁.setTop (mkF m 14 #[.val (.int p1), .val (.int p2)] [])) _
            refine XS.iconst X0.here hx rfl (hb hby d3_14) ?_
            show Steps p.tables e below (s₁.setTop (mkF m 15 #[.val (.int p1), .val (.int p2)] [(.int (1 : Int32))])) _
            refine XS.goto X0.here hx rfl (pc0 := 15) (pc' := 45) rfl (hb hby d3_15) (by decide) (by decide) ?_
            exact k)
        obtain ⟨fs, hr, hrun, hended, hW, hsame⟩ := X0.leave (v := some (.int (1 : Int32))) (fun h => by rw [Bd.returns] at h; cases h)
        refine ⟨_, _, pre16 _ ?_, hrun, hended, _, _, rfl, ?_, ⟨_, rfl⟩, hW, hsame.mono (by decide) (by decide)⟩
        · show Steps p.tables e below (s₁.setTop (mkF m 45 #[.val (.int p1), .val (.int p2)] [(.int (1 : Int32))])) _
          exact retN X0 hx (t := .boolean) Bd.returns (by simp) (hb hby d3_45) hr
        · show Q3 Z p1 p2 h0 n0 _ s₁.heap _
          rw [e0]
          exact ⟨rfl, N0, rfl⟩
      · skip
        exact absurd hc (fun hq => by rcases hq with q | q | q | q <;> (rw [q] at c3_2 c11_15; revert c3_2 c11_15; decide))
  · skip
    have pre17 : own_Go p e below (s₁.setTop (entryFrame m #[(.int p1), (.int p2)] 2)) (s₁.setTop (mkF m 49 #[.val (.int p1), .val (.int p2)] [(.int (55295 : Int32)), (.int p1)])) := fun t k => pre1 t (by
        show Steps p.tables e below (s₁.setTop (mkF m 3 #[.val (.int p1), .val (.int p2)] [(.int (32 : Int32)), (.int p1)])) _
        refine XS.icmpYes X0.here hx rfl (pc0 := 3) (pc' := 46) rfl (hb hby d3_3) rfl (XT.ii_ge_t c3_2) (by decide) (by decide) ?_
        show Steps p.tables e below (s₁.setTop (mkF m 46 #[.val (.int p1), .val (.int p2)] [])) _
        refine XS.iloadN X0.here hx rfl (hb hby d3_46) rfl ?_
        show Steps p.tables e below (s₁.setTop (mkF m 47 #[.val (.int p1), .val (.int p2)] [(.int p1)])) _
        refine X0.ldcI hx hown (mvT hZ (hw _ (List.mem_of_getElem? (i := 13) rfl))) rfl (hb hby d3_47) ?_
        exact k)
    by_cases c49_18 : (55295 : Int32) < p1
    · skip
      have pre19 : own_Go p e below (s₁.setTop (entryFrame m #[(.int p1), (.int p2)] 2)) (s₁.setTop (mkF m 55 #[.val (.int p1), .val (.int p2)] [(.int (57344 : Int32)), (.int p1)])) := fun t k => pre17 t (by
          show Steps p.tables e below (s₁.setTop (mkF m 49 #[.val (.int p1), .val (.int p2)] [(.int (55295 : Int32)), (.int p1)])) _
          refine XS.icmpNo X0.here hx rfl (hb hby d3_49) rfl (XT.ii_le_f c49_18) ?_
          show Steps p.tables e below (s₁.setTop (mkF m 52 #[.val (.int p1), .val (.int p2)] [])) _
          refine XS.iloadN X0.here hx rfl (hb hby d3_52) rfl ?_
          show Steps p.tables e below (s₁.setTop (mkF m 53 #[.val (.int p1), .val (.int p2)] [(.int p1)])) _
          refine X0.ldcI hx hown (mvT hZ (hw _ (List.mem_of_getElem? (i := 14) rfl))) rfl (hb hby d3_53) ?_
          exact k)
      by_cases c55_20 : p1 < (57344 : Int32)
      · skip
        have pre21 : own_Go p e below (s₁.setTop (entryFrame m #[(.int p1), (.int p2)] 2)) (s₁.setTop (mkF m 67 #[.val (.int p1), .val (.int p2)] [(.int (65536 : Int32)), (.int p1)])) := fun t k => pre19 t (by
            show Steps p.tables e below (s₁.setTop (mkF m 55 #[.val (.int p1), .val (.int p2)] [(.int (57344 : Int32)), (.int p1)])) _
            refine XS.icmpYes X0.here hx rfl (pc0 := 55) (pc' := 64) rfl (hb hby d3_55) rfl (XT.ii_lt_t c55_20) (by decide) (by decide) ?_
            show Steps p.tables e below (s₁.setTop (mkF m 64 #[.val (.int p1), .val (.int p2)] [])) _
            refine XS.iloadN X0.here hx rfl (hb hby d3_64) rfl ?_
            show Steps p.tables e below (s₁.setTop (mkF m 65 #[.val (.int p1), .val (.int p2)] [(.int p1)])) _
            refine X0.ldcI hx hown (mvT hZ (hw _ (List.mem_of_getElem? (i := 16) rfl))) rfl (hb hby d3_65) ?_
            exact k)
        by_cases c67_22 : p1 < (65536 : Int32)
        · skip
          exact absurd hc (fun hq => by rcases hq with q | q | q | q <;> (rw [q] at c3_2 c49_18 c55_20 c67_22; revert c3_2 c49_18 c55_20 c67_22; decide))
        · skip
          have pre23 : own_Go p e below (s₁.setTop (entryFrame m #[(.int p1), (.int p2)] 2)) (s₁.setTop (mkF m 73 #[.val (.int p1), .val (.int p2)] [(.int (1114111 : Int32)), (.int p1)])) := fun t k => pre21 t (by
              show Steps p.tables e below (s₁.setTop (mkF m 67 #[.val (.int p1), .val (.int p2)] [(.int (65536 : Int32)), (.int p1)])) _
              refine XS.icmpNo X0.here hx rfl (hb hby d3_67) rfl (XT.ii_lt_f c67_22) ?_
              show Steps p.tables e below (s₁.setTop (mkF m 70 #[.val (.int p1), .val (.int p2)] [])) _
              refine XS.iloadN X0.here hx rfl (hb hby d3_70) rfl ?_
              show Steps p.tables e below (s₁.setTop (mkF m 71 #[.val (.int p1), .val (.int p2)] [(.int p1)])) _
              refine X0.ldcI hx hown (mvT hZ (hw _ (List.mem_of_getElem? (i := 17) rfl))) rfl (hb hby d3_71) ?_
              exact k)
          by_cases c73_24 : (1114111 : Int32) < p1
          · skip
            exact absurd hc (fun hq => by rcases hq with q | q | q | q <;> (rw [q] at c3_2 c49_18 c55_20 c67_22 c73_24; revert c3_2 c49_18 c55_20 c67_22 c73_24; decide))
          · skip
            have pre25 : own_Go p e below (s₁.setTop (entryFrame m #[(.int p1), (.int p2)] 2)) (s₁.setTop (mkF m 81 #[.val (.int p1), .val (.int p2)] [(.int (1 : Int32))])) := fun t k => pre23 t (by
                show Steps p.tables e below (s₁.setTop (mkF m 73 #[.val (.int p1), .val (.int p2)] [(.int (1114111 : Int32)), (.int p1)])) _
                refine XS.icmpNo X0.here hx rfl (hb hby d3_73) rfl (XT.ii_gt_f c73_24) ?_
                show Steps p.tables e below (s₁.setTop (mkF m 76 #[.val (.int p1), .val (.int p2)] [])) _
                refine XS.iconst X0.here hx rfl (hb hby d3_76) ?_
                show Steps p.tables e below (s₁.setTop (mkF m 77 #[.val (.int p1), .val (.int p2)] [(.int (1 : Int32))])) _
                refine XS.goto X0.here hx rfl (pc0 := 77) (pc' := 81) rfl (hb hby d3_77) (by decide) (by decide) ?_
                exact k)
            obtain ⟨fs, hr, hrun, hended, hW, hsame⟩ := X0.leave (v := some (.int (1 : Int32))) (fun h => by rw [Bd.returns] at h; cases h)
            refine ⟨_, _, pre25 _ ?_, hrun, hended, _, _, rfl, ?_, ⟨_, rfl⟩, hW, hsame.mono (by decide) (by decide)⟩
            · show Steps p.tables e below (s₁.setTop (mkF m 81 #[.val (.int p1), .val (.int p2)] [(.int (1 : Int32))])) _
              exact retN X0 hx (t := .boolean) Bd.returns (by simp) (hb hby d3_81) hr
            · show Q3 Z p1 p2 h0 n0 _ s₁.heap _
              rw [e0]
              exact ⟨rfl, N0, rfl⟩
      · skip
        have pre26 : own_Go p e below (s₁.setTop (entryFrame m #[(.int p1), (.int p2)] 2)) (s₁.setTop (mkF m 61 #[.val (.int p1), .val (.int p2)] [(.int (65533 : Int32)), (.int p1)])) := fun t k => pre19 t (by
            show Steps p.tables e below (s₁.setTop (mkF m 55 #[.val (.int p1), .val (.int p2)] [(.int (57344 : Int32)), (.int p1)])) _
            refine XS.icmpNo X0.here hx rfl (hb hby d3_55) rfl (XT.ii_lt_f c55_20) ?_
            show Steps p.tables e below (s₁.setTop (mkF m 58 #[.val (.int p1), .val (.int p2)] [])) _
            refine XS.iloadN X0.here hx rfl (hb hby d3_58) rfl ?_
            show Steps p.tables e below (s₁.setTop (mkF m 59 #[.val (.int p1), .val (.int p2)] [(.int p1)])) _
            refine X0.ldcI hx hown (mvT hZ (hw _ (List.mem_of_getElem? (i := 15) rfl))) rfl (hb hby d3_59) ?_
            exact k)
        by_cases c61_27 : (65533 : Int32) < p1
        · skip
          have pre28 : own_Go p e below (s₁.setTop (entryFrame m #[(.int p1), (.int p2)] 2)) (s₁.setTop (mkF m 67 #[.val (.int p1), .val (.int p2)] [(.int (65536 : Int32)), (.int p1)])) := fun t k => pre26 t (by
              show Steps p.tables e below (s₁.setTop (mkF m 61 #[.val (.int p1), .val (.int p2)] [(.int (65533 : Int32)), (.int p1)])) _
              refine XS.icmpNo X0.here hx rfl (hb hby d3_61) rfl (XT.ii_le_f c61_27) ?_
              show Steps p.tables e below (s₁.setTop (mkF m 64 #[.val (.int p1), .val (.int p2)] [])) _
              refine XS.iloadN X0.here hx rfl (hb hby d3_64) rfl ?_
              show Steps p.tables e below (s₁.setTop (mkF m 65 #[.val (.int p1), .val (.int p2)] [(.int p1)])) _
              refine X0.ldcI hx hown (mvT hZ (hw _ (List.mem_of_getElem? (i := 16) rfl))) rfl (hb hby d3_65) ?_
              exact k)
          by_cases c67_29 : p1 < (65536 : Int32)
          · skip
            exact absurd hc (fun hq => by rcases hq with q | q | q | q <;> (rw [q] at c3_2 c49_18 c55_20 c61_27 c67_29; revert c3_2 c49_18 c55_20 c61_27 c67_29; decide))
          · skip
            have pre30 : own_Go p e below (s₁.setTop (entryFrame m #[(.int p1), (.int p2)] 2)) (s₁.setTop (mkF m 73 #[.val (.int p1), .val (.int p2)] [(.int (1114111 : Int32)), (.int p1)])) := fun t k => pre28 t (by
                show Steps p.tables e below (s₁.setTop (mkF m 67 #[.val (.int p1), .val (.int p2)] [(.int (65536 : Int32)), (.int p1)])) _
                refine XS.icmpNo X0.here hx rfl (hb hby d3_67) rfl (XT.ii_lt_f c67_29) ?_
                show Steps p.tables e below (s₁.setTop (mkF m 70 #[.val (.int p1), .val (.int p2)] [])) _
                refine XS.iloadN X0.here hx rfl (hb hby d3_70) rfl ?_
                show Steps p.tables e below (s₁.setTop (mkF m 71 #[.val (.int p1), .val (.int p2)] [(.int p1)])) _
                refine X0.ldcI hx hown (mvT hZ (hw _ (List.mem_of_getElem? (i := 17) rfl))) rfl (hb hby d3_71) ?_
                exact k)
            by_cases c73_31 : (1114111 : Int32) < p1
            · skip
              exact absurd hc (fun hq => by rcases hq with q | q | q | q <;> (rw [q] at c3_2 c49_18 c55_20 c61_27 c67_29 c73_31; revert c3_2 c49_18 c55_20 c61_27 c67_29 c73_31; decide))
            · skip
              have pre32 : own_Go p e below (s₁.setTop (entryFrame m #[(.int p1), (.int p2)] 2)) (s₁.setTop (mkF m 81 #[.val (.int p1), .val (.int p2)] [(.int (1 : Int32))])) := fun t k => pre30 t (by
                  show Steps p.tables e below (s₁.setTop (mkF m 73 #[.val (.int p1), .val (.int p2)] [(.int (1114111 : Int32)), (.int p1)])) _
                  refine XS.icmpNo X0.here hx rfl (hb hby d3_73) rfl (XT.ii_gt_f c73_31) ?_
                  show Steps p.tables e below (s₁.setTop (mkF m 76 #[.val (.int p1), .val (.int p2)] [])) _
                  refine XS.iconst X0.here hx rfl (hb hby d3_76) ?_
                  show Steps p.tables e below (s₁.setTop (mkF m 77 #[.val (.int p1), .val (.int p2)] [(.int (1 : Int32))])) _
                  refine XS.goto X0.here hx rfl (pc0 := 77) (pc' := 81) rfl (hb hby d3_77) (by decide) (by decide) ?_
                  exact k)
              obtain ⟨fs, hr, hrun, hended, hW, hsame⟩ := X0.leave (v := some (.int (1 : Int32))) (fun h => by rw [Bd.returns] at h; cases h)
              refine ⟨_, _, pre32 _ ?_, hrun, hended, _, _, rfl, ?_, ⟨_, rfl⟩, hW, hsame.mono (by decide) (by decide)⟩
              · show Steps p.tables e below (s₁.setTop (mkF m 81 #[.val (.int p1), .val (.int p2)] [(.int (1 : Int32))])) _
                exact retN X0 hx (t := .boolean) Bd.returns (by simp) (hb hby d3_81) hr
              · show Q3 Z p1 p2 h0 n0 _ s₁.heap _
                rw [e0]
                exact ⟨rfl, N0, rfl⟩
        · skip
          have pre33 : own_Go p e below (s₁.setTop (entryFrame m #[(.int p1), (.int p2)] 2)) (s₁.setTop (mkF m 81 #[.val (.int p1), .val (.int p2)] [(.int (1 : Int32))])) := fun t k => pre26 t (by
              show Steps p.tables e below (s₁.setTop (mkF m 61 #[.val (.int p1), .val (.int p2)] [(.int (65533 : Int32)), (.int p1)])) _
              refine XS.icmpYes X0.here hx rfl (pc0 := 61) (pc' := 76) rfl (hb hby d3_61) rfl (XT.ii_le_t c61_27) (by decide) (by decide) ?_
              show Steps p.tables e below (s₁.setTop (mkF m 76 #[.val (.int p1), .val (.int p2)] [])) _
              refine XS.iconst X0.here hx rfl (hb hby d3_76) ?_
              show Steps p.tables e below (s₁.setTop (mkF m 77 #[.val (.int p1), .val (.int p2)] [(.int (1 : Int32))])) _
              refine XS.goto X0.here hx rfl (pc0 := 77) (pc' := 81) rfl (hb hby d3_77) (by decide) (by decide) ?_
              exact k)
          obtain ⟨fs, hr, hrun, hended, hW, hsame⟩ := X0.leave (v := some (.int (1 : Int32))) (fun h => by rw [Bd.returns] at h; cases h)
          refine ⟨_, _, pre33 _ ?_, hrun, hended, _, _, rfl, ?_, ⟨_, rfl⟩, hW, hsame.mono (by decide) (by decide)⟩
          · show Steps p.tables e below (s₁.setTop (mkF m 81 #[.val (.int p1), .val (.int p2)] [(.int (1 : Int32))])) _
            exact retN X0 hx (t := .boolean) Bd.returns (by simp) (hb hby d3_81) hr
          · show Q3 Z p1 p2 h0 n0 _ s₁.heap _
            rw [e0]
            exact ⟨rfl, N0, rfl⟩
    · skip
      have pre34 : own_Go p e below (s₁.setTop (entryFrame m #[(.int p1), (.int p2)] 2)) (s₁.setTop (mkF m 81 #[.val (.int p1), .val (.int p2)] [(.int (1 : Int32))])) := fun t k => pre17 t (by
          show Steps p.tables e below (s₁.setTop (mkF m 49 #[.val (.int p1), .val (.int p2)] [(.int (55295 : Int32)), (.int p1)])) _
          refine XS.icmpYes X0.here hx rfl (pc0 := 49) (pc' := 76) rfl (hb hby d3_49) rfl (XT.ii_le_t c49_18) (by decide) (by decide) ?_
          show Steps p.tables e below (s₁.setTop (mkF m 76 #[.val (.int p1), .val (.int p2)] [])) _
          refine XS.iconst X0.here hx rfl (hb hby d3_76) ?_
          show Steps p.tables e below (s₁.setTop (mkF m 77 #[.val (.int p1), .val (.int p2)] [(.int (1 : Int32))])) _
          refine XS.goto X0.here hx rfl (pc0 := 77) (pc' := 81) rfl (hb hby d3_77) (by decide) (by decide) ?_
          exact k)
      obtain ⟨fs, hr, hrun, hended, hW, hsame⟩ := X0.leave (v := some (.int (1 : Int32))) (fun h => by rw [Bd.returns] at h; cases h)
      refine ⟨_, _, pre34 _ ?_, hrun, hended, _, _, rfl, ?_, ⟨_, rfl⟩, hW, hsame.mono (by decide) (by decide)⟩
      · show Steps p.tables e below (s₁.setTop (mkF m 81 #[.val (.int p1), .val (.int p2)] [(.int (1 : Int32))])) _
        exact retN X0 hx (t := .boolean) Bd.returns (by simp) (hb hby d3_81) hr
      · show Q3 Z p1 p2 h0 n0 _ s₁.heap _
        rw [e0]
        exact ⟨rfl, N0, rfl⟩
def Q4 (Z : State) (p1 p2 : Int32) (h0 : Heap) (n0 : Nat) (v : Option Value) (h : Heap) (L : List Loc) : Prop := v = some (.int (1 : Int32)) ∧ Fr n0 L ∧ h = h0
theorem d4_0 : decode prog_95_method_3_code 0 = .ok (.iload_n 0, 1) := by decide +kernel
theorem d4_1 : decode prog_95_method_3_code 1 = .ok (.bipush 32, 2) := by decide +kernel
theorem d4_3 : decode prog_95_method_3_code 3 = .ok (.if_icmp .ge 27, 3) := by decide +kernel
theorem d4_6 : decode prog_95_method_3_code 6 = .ok (.iload_n 0, 1) := by decide +kernel
theorem d4_7 : decode prog_95_method_3_code 7 = .ok (.bipush 9, 2) := by decide +kernel
theorem d4_9 : decode prog_95_method_3_code 9 = .ok (.if_icmp .eq 15, 3) := by decide +kernel
theorem d4_12 : decode prog_95_method_3_code 12 = .ok (.iload_n 0, 1) := by decide +kernel
theorem d4_13 : decode prog_95_method_3_code 13 = .ok (.bipush 10, 2) := by decide +kernel
theorem d4_15 : decode prog_95_method_3_code 15 = .ok (.if_icmp .eq 9, 3) := by decide +kernel
theorem d4_18 : decode prog_95_method_3_code 18 = .ok (.iload_n 0, 1) := by decide +kernel
theorem d4_19 : decode prog_95_method_3_code 19 = .ok (.bipush 13, 2) := by decide +kernel
theorem d4_21 : decode prog_95_method_3_code 21 = .ok (.if_icmp .ne 7, 3) := by decide +kernel
theorem d4_24 : decode prog_95_method_3_code 24 = .ok (.iconst 1, 1) := by decide +kernel
theorem d4_25 : decode prog_95_method_3_code 25 = .ok (.goto 4, 3) := by decide +kernel
theorem d4_28 : decode prog_95_method_3_code 28 = .ok (.iconst 0, 1) := by decide +kernel
theorem d4_29 : decode prog_95_method_3_code 29 = .ok (.ireturn, 1) := by decide +kernel
theorem d4_30 : decode prog_95_method_3_code 30 = .ok (.iload_n 1, 1) := by decide +kernel
theorem d4_31 : decode prog_95_method_3_code 31 = .ok (.ifCond .eq 29, 3) := by decide +kernel
theorem d4_34 : decode prog_95_method_3_code 34 = .ok (.iload_n 0, 1) := by decide +kernel
theorem d4_35 : decode prog_95_method_3_code 35 = .ok (.bipush 127, 2) := by decide +kernel
theorem d4_37 : decode prog_95_method_3_code 37 = .ok (.if_icmp .lt 23, 3) := by decide +kernel
theorem d4_40 : decode prog_95_method_3_code 40 = .ok (.iload_n 0, 1) := by decide +kernel
theorem d4_41 : decode prog_95_method_3_code 41 = .ok (.sipush 159, 3) := by decide +kernel
theorem d4_44 : decode prog_95_method_3_code 44 = .ok (.if_icmp .gt 16, 3) := by decide +kernel
theorem d4_47 : decode prog_95_method_3_code 47 = .ok (.iload_n 0, 1) := by decide +kernel
theorem d4_48 : decode prog_95_method_3_code 48 = .ok (.sipush 133, 3) := by decide +kernel
theorem d4_51 : decode prog_95_method_3_code 51 = .ok (.if_icmp .ne 7, 3) := by decide +kernel
theorem d4_54 : decode prog_95_method_3_code 54 = .ok (.iconst 1, 1) := by decide +kernel
theorem d4_55 : decode prog_95_method_3_code 55 = .ok (.goto 4, 3) := by decide +kernel
theorem d4_58 : decode prog_95_method_3_code 58 = .ok (.iconst 0, 1) := by decide +kernel
theorem d4_59 : decode prog_95_method_3_code 59 = .ok (.ireturn, 1) := by decide +kernel
theorem d4_60 : decode prog_95_method_3_code 60 = .ok (.iload_n 0, 1) := by decide +kernel
theorem d4_61 : decode prog_95_method_3_code 61 = .ok (.iload_n 1, 1) := by decide +kernel
theorem d4_62 : decode prog_95_method_3_code 62 = .ok (.invokestatic 14, 3) := by decide +kernel
theorem d4_65 : decode prog_95_method_3_code 65 = .ok (.ireturn, 1) := by decide +kernel
theorem pn_4 : plainName "com/example/libxdm/libxdm/xml/XmlChars" = true := by first | (simp [plainName, overriddenIn]; done) | decide +kernel
theorem pd_4_0 : parseMethodDescriptor "(IZ)Z" = some ⟨[.int, .boolean], some .boolean⟩ := by decide +kernel
theorem ef_4 (m : MethodId) (x0 : Int32) (x1 : Int32) : entryFrame m #[(.int x0), (.int x1)] 2 = mkF m 0 #[.val (.int x0), .val (.int x1)] [] := by first | (simp [entryFrame, mkF, argsToLocals, Value.category]; done) | rfl
set_option maxRecDepth 65536 in
set_option maxHeartbeats 40000000 in
theorem rm4 (l : Launch) (Z : State) (a0 : Array Value) (hw : ∀ d ∈ tables_1, d.before a0 Z = true) (ws : List Jvm.Cond) (p1 p2 : Int32) (h0 : Heap) (n0 : Nat) (Z0 : n0 ≤ h0.size) (hc : (p1 = 32 ∨ p1 = 10 ∨ p1 = 9 ∨ p1 = 13)) :
    MetFree l (⟨"com/example/libxdm/libxdm/xml/XmlChars", "isLiteral", "(CZ)Z"⟩ : MethodName) (head1 (Jvm.Cond.code (⟨"com/example/libxdm/libxdm/xml/XmlChars", "isLiteral", "(CZ)Z"⟩ : MethodName) prog_95_method_3_code 2 (some .boolean) :: ws) ({ frames := 1, cells := 0, slots := 0, locals := 13 } : Room)) (fun a U => a = #[(.int p1), (.int p2)] ∧ Z.Warmed39 U.vm ∧ U.heap = h0) (fun _ _ _ _ _ => True) (fun _ U o U' => ∃ v L, o = .returned v ∧ Q4 Z p1 p2 h0 n0 v U'.heap L ∧ FrameEnd U o U' L ({ frames := 1, cells := 0, slots := 0, locals := 13 } : Room).cells ({ frames := 1, cells := 0, slots := 0, locals := 13 } : Room).slots) := by
  refine MetFree.of_bodySF (plainFor_of_name pn_4) hisR ?_
  intro p e s m args below meth c s₁ Bd hml0 hP hK
  obtain ⟨rfl, hZ, hh⟩ := hP
  have hx := Bd.exec
  have hby := Bd.bytes
  have hml : c.maxLocals = 2 := hml0
  have hown : s.vm.findClass "com/example/libxdm/libxdm/xml/XmlChars" = some m.cls := findClass_of_methodNamed Bd.named
  have hnm := (name_of_methodNamed Bd.named Bd.method).1
  have X0 : Stand p l e ({ frames := 1, cells := 0, slots := 0, locals := 13 } : Room) s m #[(.int p1), (.int p2)] below meth c s₁ [] 0 0 := Stand.of_body Bd
  have e0 : s₁.heap = h0 := by rw [← hh, Bd.state]; rfl
  have N0 := Fr.nil n0
  have pre0 : own_Go p e below (s₁.setTop (entryFrame m #[(.int p1), (.int p2)] 2)) (s₁.setTop (mkF m 0 #[.val (.int p1), .val (.int p2)] [])) := fun t k => castTop (ef_4 m p1 p2) k
  have pre1 : own_Go p e below (s₁.setTop (entryFrame m #[(.int p1), (.int p2)] 2)) (s₁.setTop (mkF m 3 #[.val (.int p1), .val (.int p2)] [(.int (32 : Int32)), (.int p1)])) := fun t k => pre0 t (by
      show Steps p.tables e below (s₁.setTop (mkF m 0 #[.val (.int p1), .val (.int p2)] [])) _
      refine XS.iloadN X0.here hx rfl (hb hby d4_0) rfl ?_
      show Steps p.tables e below (s₁.setTop (mkF m 1 #[.val (.int p1), .val (.int p2)] [(.int p1)])) _
      refine XS.bipush X0.here hx rfl (hb hby d4_1) ?_
      exact k)
  by_cases c3_2 : p1 < (32 : Int32)
  · skip
    have pre3 : own_Go p e below (s₁.setTop (entryFrame m #[(.int p1), (.int p2)] 2)) (s₁.setTop (mkF m 9 #[.val (.int p1), .val (.int p2)] [(.int (9 : Int32)), (.int p1)])) := fun t k => pre1 t (by
        show Steps p.tables e below (s₁.setTop (mkF m 3 #[.val (.int p1), .val (.int p2)] [(.int (32 : Int32)), (.int p1)])) _
        refine XS.icmpNo X0.here hx rfl (hb hby d4_3) rfl (XT.ii_ge_f c3_2) ?_
        show Steps p.tables e below (s₁.setTop (mkF m 6 #[.val (.int p1), .val (.int p2)] [])) _
        refine XS.iloadN X0.here hx rfl (hb hby d4_6) rfl ?_
        show Steps p.tables e below (s₁.setTop (mkF m 7 #[.val (.int p1), .val (.int p2)] [(.int p1)])) _
        refine XS.bipush X0.here hx rfl (hb hby d4_7) ?_
        exact k)
    by_cases c9_4 : p1 = (9 : Int32)
    · skip
      have pre5 : own_Go p e below (s₁.setTop (entryFrame m #[(.int p1), (.int p2)] 2)) (s₁.setTop (mkF m 29 #[.val (.int p1), .val (.int p2)] [(.int (1 : Int32))])) := fun t k => pre3 t (by
          show Steps p.tables e below (s₁.setTop (mkF m 9 #[.val (.int p1), .val (.int p2)] [(.int (9 : Int32)), (.int p1)])) _
          refine XS.icmpYes X0.here hx rfl (pc0 := 9) (pc' := 24) rfl (hb hby d4_9) rfl (XT.ii_eq_t c9_4) (by decide) (by decide) ?_
          show Steps p.tables e below (s₁.setTop (mkF m 24 #[.val (.int p1), .val (.int p2)] [])) _
          refine XS.iconst X0.here hx rfl (hb hby d4_24) ?_
          show Steps p.tables e below (s₁.setTop (mkF m 25 #[.val (.int p1), .val (.int p2)] [(.int (1 : Int32))])) _
          refine XS.goto X0.here hx rfl (pc0 := 25) (pc' := 29) rfl (hb hby d4_25) (by decide) (by decide) ?_
          exact k)
      obtain ⟨fs, hr, hrun, hended, hW, hsame⟩ := X0.leave (v := some (.int (1 : Int32))) (fun h => by rw [Bd.returns] at h; cases h)
      refine ⟨_, _, pre5 _ ?_, hrun, hended, _, _, rfl, ?_, ⟨_, rfl⟩, hW, hsame.mono (by decide) (by decide)⟩
      · show Steps p.tables e below (s₁.setTop (mkF m 29 #[.val (.int p1), .val (.int p2)] [(.int (1 : Int32))])) _
        exact retN X0 hx (t := .boolean) Bd.returns (by simp) (hb hby d4_29) hr
      · show Q4 Z p1 p2 h0 n0 _ s₁.heap _
        rw [e0]
        exact ⟨rfl, N0, rfl⟩
    · skip
      have pre6 : own_Go p e below (s₁.setTop (entryFrame m #[(.int p1), (.int p2)] 2)) (s₁.setTop (mkF m 15 #[.val (.int p1), .val (.int p2)] [(.int (10 : Int32)), (.int p1)])) := fun t k => pre3 t (by
          show Steps p.tables e below (s₁.setTop (mkF m 9 #[.val (.int p1), .val (.int p2)] [(.int (9 : Int32)), (.int p1)])) _
          refine XS.icmpNo X0.here hx rfl (hb hby d4_9) rfl (XT.ii_eq_f c9_4) ?_
          show Steps p.tables e below (s₁.setTop (mkF m 12 #[.val (.int p1), .val (.int p2)] [])) _
          refine XS.iloadN X0.here hx rfl (hb hby d4_12) rfl ?_
          show Steps p.tables e below (s₁.setTop (mkF m 13 #[.val (.int p1), .val (.int p2)] [(.int p1)])) _
          refine XS.bipush X0.here hx rfl (hb hby d4_13) ?_
          exact k)
      by_cases c15_7 : p1 = (10 : Int32)
      · skip
        have pre8 : own_Go p e below (s₁.setTop (entryFrame m #[(.int p1), (.int p2)] 2)) (s₁.setTop (mkF m 29 #[.val (.int p1), .val (.int p2)] [(.int (1 : Int32))])) := fun t k => pre6 t (by
            show Steps p.tables e below (s₁.setTop (mkF m 15 #[.val (.int p1), .val (.int p2)] [(.int (10 : Int32)), (.int p1)])) _
            refine XS.icmpYes X0.here hx rfl (pc0 := 15) (pc' := 24) rfl (hb hby d4_15) rfl (XT.ii_eq_t c15_7) (by decide) (by decide) ?_
            show Steps p.tables e below (s₁.setTop (mkF m 24 #[.val (.int p1), .val (.int p2)] [])) _
            refine XS.iconst X0.here hx rfl (hb hby d4_24) ?_
            show Steps p.tables e below (s₁.setTop (mkF m 25 #[.val (.int p1), .val (.int p2)] [(.int (1 : Int32))])) _
            refine XS.goto X0.here hx rfl (pc0 := 25) (pc' := 29) rfl (hb hby d4_25) (by decide) (by decide) ?_
            exact k)
        obtain ⟨fs, hr, hrun, hended, hW, hsame⟩ := X0.leave (v := some (.int (1 : Int32))) (fun h => by rw [Bd.returns] at h; cases h)
        refine ⟨_, _, pre8 _ ?_, hrun, hended, _, _, rfl, ?_, ⟨_, rfl⟩, hW, hsame.mono (by decide) (by decide)⟩
        · show Steps p.tables e below (s₁.setTop (mkF m 29 #[.val (.int p1), .val (.int p2)] [(.int (1 : Int32))])) _
          exact retN X0 hx (t := .boolean) Bd.returns (by simp) (hb hby d4_29) hr
        · show Q4 Z p1 p2 h0 n0 _ s₁.heap _
          rw [e0]
          exact ⟨rfl, N0, rfl⟩
      · skip
        have pre9 : own_Go p e below (s₁.setTop (entryFrame m #[(.int p1), (.int p2)] 2)) (s₁.setTop (mkF m 21 #[.val (.int p1), .val (.int p2)] [(.int (13 : Int32)), (.int p1)])) := fun t k => pre6 t (by
            show Steps p.tables e below (s₁.setTop (mkF m 15 #[.val (.int p1), .val (.int p2)] [(.int (10 : Int32)), (.int p1)])) _
            refine XS.icmpNo X0.here hx rfl (hb hby d4_15) rfl (XT.ii_eq_f c15_7) ?_
            show Steps p.tables e below (s₁.setTop (mkF m 18 #[.val (.int p1), .val (.int p2)] [])) _
            refine XS.iloadN X0.here hx rfl (hb hby d4_18) rfl ?_
            show Steps p.tables e below (s₁.setTop (mkF m 19 #[.val (.int p1), .val (.int p2)] [(.int p1)])) _
            refine XS.bipush X0.here hx rfl (hb hby d4_19) ?_
            exact k)
        by_cases c21_10 : p1 = (13 : Int32)
        · skip
          have pre11 : own_Go p e below (s₁.setTop (entryFrame m #[(.int p1), (.int p2)] 2)) (s₁.setTop (mkF m 29 #[.val (.int p1), .val (.int p2)] [(.int (1 : Int32))])) := fun t k => pre9 t (by
              show Steps p.tables e below (s₁.setTop (mkF m 21 #[.val (.int p1), .val (.int p2)] [(.int (13 : Int32)), (.int p1)])) _
              refine XS.icmpNo X0.here hx rfl (hb hby d4_21) rfl (XT.ii_ne_f c21_10) ?_
              show Steps p.tables e below (s₁.setTop (mkF m 24 #[.val (.int p1), .val (.int p2)] [])) _
              refine XS.iconst X0.here hx rfl (hb hby d4_24) ?_
              show Steps p.tables e below (s₁.setTop (mkF m 25 #[.val (.int p1), .val (.int p2)] [(.int (1 : Int32))])) _
              refine XS.goto X0.here hx rfl (pc0 := 25) (pc' := 29) rfl (hb hby d4_25) (by decide) (by decide) ?_
              exact k)
          obtain ⟨fs, hr, hrun, hended, hW, hsame⟩ := X0.leave (v := some (.int (1 : Int32))) (fun h => by rw [Bd.returns] at h; cases h)
          refine ⟨_, _, pre11 _ ?_, hrun, hended, _, _, rfl, ?_, ⟨_, rfl⟩, hW, hsame.mono (by decide) (by decide)⟩
          · show Steps p.tables e below (s₁.setTop (mkF m 29 #[.val (.int p1), .val (.int p2)] [(.int (1 : Int32))])) _
            exact retN X0 hx (t := .boolean) Bd.returns (by simp) (hb hby d4_29) hr
          · show Q4 Z p1 p2 h0 n0 _ s₁.heap _
            rw [e0]
            exact ⟨rfl, N0, rfl⟩
        · skip
          exact absurd hc (fun hq => by rcases hq with q | q | q | q <;> (rw [q] at c3_2 c9_4 c15_7 c21_10; revert c3_2 c9_4 c15_7 c21_10; decide))
  · skip
    have pre12 : own_Go p e below (s₁.setTop (entryFrame m #[(.int p1), (.int p2)] 2)) (s₁.setTop (mkF m 31 #[.val (.int p1), .val (.int p2)] [(.int p2)])) := fun t k => pre1 t (by
        show Steps p.tables e below (s₁.setTop (mkF m 3 #[.val (.int p1), .val (.int p2)] [(.int (32 : Int32)), (.int p1)])) _
        refine XS.icmpYes X0.here hx rfl (pc0 := 3) (pc' := 30) rfl (hb hby d4_3) rfl (XT.ii_ge_t c3_2) (by decide) (by decide) ?_
        show Steps p.tables e below (s₁.setTop (mkF m 30 #[.val (.int p1), .val (.int p2)] [])) _
        refine XS.iloadN X0.here hx rfl (hb hby d4_30) rfl ?_
        exact k)
    by_cases c31_13 : p2 = (0 : Int32)
    · skip
      have pre14 : own_Go p e below (s₁.setTop (entryFrame m #[(.int p1), (.int p2)] 2)) (s₁.setTop (mkF m 62 #[.val (.int p1), .val (.int p2)] [(.int p2), (.int p1)])) := fun t k => pre12 t (by
          show Steps p.tables e below (s₁.setTop (mkF m 31 #[.val (.int p1), .val (.int p2)] [(.int p2)])) _
          refine XS.ifYes X0.here hx rfl (pc0 := 31) (pc' := 60) rfl (hb hby d4_31) rfl (XT.i0_eq_t c31_13) (by decide) (by decide) ?_
          show Steps p.tables e below (s₁.setTop (mkF m 60 #[.val (.int p1), .val (.int p2)] [])) _
          refine XS.iloadN X0.here hx rfl (hb hby d4_60) rfl ?_
          show Steps p.tables e below (s₁.setTop (mkF m 61 #[.val (.int p1), .val (.int p2)] [(.int p1)])) _
          refine XS.iloadN X0.here hx rfl (hb hby d4_61) rfl ?_
          exact k)
      obtain ⟨_, _, ⟨T15, L15, k15, n15⟩, -, X15, ⟨Lc15, hQ15, l15, y15, z15⟩, st15⟩ := Jvm.LawKit.callS X0 hx (y := (⟨"com/example/libxdm/libxdm/xml/XmlChars", "isChar", "(IZ)Z"⟩ : MethodName)) hown (mvT hZ (hw _ (List.mem_of_getElem? (i := 18) rfl))) (mvT hZ (hw _ (List.mem_of_getElem? (i := 5) rfl))) (mvT hZ (hw _ (List.mem_of_getElem? (i := 2) rfl))) (mvT hZ (hw _ (List.mem_of_getElem? (i := 6) rfl))) (by decide) (backOf (W := 0) (rm3 l Z a0 hw [] p1 p2 h0 n0 Z0 hc) hZ (hw _ (List.mem_of_getElem? (i := 6) rfl)) (hw _ (List.mem_of_getElem? (i := 2) rfl)) (by decide) (by decide)) (g := (mkF m 62 #[.val (.int p1), .val (.int p2)] [(.int p2), (.int p1)])) rfl (by rw [hml]; rfl) (argsL := [(.int p1), (.int p2)]) (rest := []) (lenOf pd_4_0 rfl) rfl (by show 2 * 0 + _ ≤ _; exact Nat.le_of_eq rfl) (hb hby d4_62) (fun _ _ => ⟨rfl, e0, (by decide : 0 + 0 ≤ _), (by decide : 0 + 0 ≤ _)⟩)
      dsimp only [Pt.U, Pt.locs, Pt.cells, Pt.slots] at X15 l15 y15 z15 st15 hQ15
      subst l15 y15 z15
      obtain ⟨rfl, N15q, hh15⟩ := hQ15
      have N15 := Fr.app N0 N15q
      have pre16 : own_Go p e below (s₁.setTop (entryFrame m #[(.int p1), (.int p2)] 2)) (T15.setTop (mkF m 65 #[.val (.int p1), .val (.int p2)] [(.int (1 : Int32))])) := fun t k => pre14 t (st15 t k)
      obtain ⟨fs, hr, hrun, hended, hW, hsame⟩ := X15.leave (v := some (.int (1 : Int32))) (fun h => by rw [Bd.returns] at h; cases h)
      refine ⟨_, _, pre16 _ ?_, hrun, hended, _, _, rfl, ?_, ⟨_, rfl⟩, hW, hsame.mono (by decide) (by decide)⟩
      · show Steps p.tables e below (T15.setTop (mkF m 65 #[.val (.int p1), .val (.int p2)] [(.int (1 : Int32))])) _
        exact retN X15 hx (t := .boolean) Bd.returns (by simp) (hb hby d4_65) hr
      · show Q4 Z p1 p2 h0 n0 _ T15.heap _
        exact ⟨rfl, N15, hh15⟩
    · skip
      have pre17 : own_Go p e below (s₁.setTop (entryFrame m #[(.int p1), (.int p2)] 2)) (s₁.setTop (mkF m 37 #[.val (.int p1), .val (.int p2)] [(.int (127 : Int32)), (.int p1)])) := fun t k => pre12 t (by
          show Steps p.tables e below (s₁.setTop (mkF m 31 #[.val (.int p1), .val (.int p2)] [(.int p2)])) _
          refine XS.ifNo X0.here hx rfl (hb hby d4_31) rfl (XT.i0_eq_f c31_13) ?_
          show Steps p.tables e below (s₁.setTop (mkF m 34 #[.val (.int p1), .val (.int p2)] [])) _
          refine XS.iloadN X0.here hx rfl (hb hby d4_34) rfl ?_
          show Steps p.tables e below (s₁.setTop (mkF m 35 #[.val (.int p1), .val (.int p2)] [(.int p1)])) _
          refine XS.bipush X0.here hx rfl (hb hby d4_35) ?_
          exact k)
      by_cases c37_18 : p1 < (127 : Int32)
      · skip
        have pre19 : own_Go p e below (s₁.setTop (entryFrame m #[(.int p1), (.int p2)] 2)) (s₁.setTop (mkF m 62 #[.val (.int p1), .val (.int p2)] [(.int p2), (.int p1)])) := fun t k => pre17 t (by
            show Steps p.tables e below (s₁.setTop (mkF m 37 #[.val (.int p1), .val (.int p2)] [(.int (127 : Int32)), (.int p1)])) _
            refine XS.icmpYes X0.here hx rfl (pc0 := 37) (pc' := 60) rfl (hb hby d4_37) rfl (XT.ii_lt_t c37_18) (by decide) (by decide) ?_
            show Steps p.tables e below (s₁.setTop (mkF m 60 #[.val (.int p1), .val (.int p2)] [])) _
            refine XS.iloadN X0.here hx rfl (hb hby d4_60) rfl ?_
            show Steps p.tables e below (s₁.setTop (mkF m 61 #[.val (.int p1), .val (.int p2)] [(.int p1)])) _
            refine XS.iloadN X0.here hx rfl (hb hby d4_61) rfl ?_
            exact k)
        obtain ⟨_, _, ⟨T20, L20, k20, n20⟩, -, X20, ⟨Lc20, hQ20, l20, y20, z20⟩, st20⟩ := Jvm.LawKit.callS X0 hx (y := (⟨"com/example/libxdm/libxdm/xml/XmlChars", "isChar", "(IZ)Z"⟩ : MethodName)) hown (mvT hZ (hw _ (List.mem_of_getElem? (i := 18) rfl))) (mvT hZ (hw _ (List.mem_of_getElem? (i := 5) rfl))) (mvT hZ (hw _ (List.mem_of_getElem? (i := 2) rfl))) (mvT hZ (hw _ (List.mem_of_getElem? (i := 6) rfl))) (by decide) (backOf (W := 0) (rm3 l Z a0 hw [] p1 p2 h0 n0 Z0 hc) hZ (hw _ (List.mem_of_getElem? (i := 6) rfl)) (hw _ (List.mem_of_getElem? (i := 2) rfl)) (by decide) (by decide)) (g := (mkF m 62 #[.val (.int p1), .val (.int p2)] [(.int p2), (.int p1)])) rfl (by rw [hml]; rfl) (argsL := [(.int p1), (.int p2)]) (rest := []) (lenOf pd_4_0 rfl) rfl (by show 2 * 0 + _ ≤ _; exact Nat.le_of_eq rfl) (hb hby d4_62) (fun _ _ => ⟨rfl, e0, (by decide : 0 + 0 ≤ _), (by decide : 0 + 0 ≤ _)⟩)
        dsimp only [Pt.U, Pt.locs, Pt.cells, Pt.slots] at X20 l20 y20 z20 st20 hQ20
        subst l20 y20 z20
        obtain ⟨rfl, N20q, hh20⟩ := hQ20
        have N20 := Fr.app N0 N20q
        have pre21 : own_Go p e below (s₁.setTop (entryFrame m #[(.int p1), (.int p2)] 2)) (T20.setTop (mkF m 65 #[.val (.int p1), .val (.int p2)] [(.int (1 : Int32))])) := fun t k => pre19 t (st20 t k)
        obtain ⟨fs, hr, hrun, hended, hW, hsame⟩ := X20.leave (v := some (.int (1 : Int32))) (fun h => by rw [Bd.returns] at h; cases h)
        refine ⟨_, _, pre21 _ ?_, hrun, hended, _, _, rfl, ?_, ⟨_, rfl⟩, hW, hsame.mono (by decide) (by decide)⟩
        · show Steps p.tables e below (T20.setTop (mkF m 65 #[.val (.int p1), .val (.int p2)] [(.int (1 : Int32))])) _
          exact retN X20 hx (t := .boolean) Bd.returns (by simp) (hb hby d4_65) hr
        · show Q4 Z p1 p2 h0 n0 _ T20.heap _
          exact ⟨rfl, N20, hh20⟩
      · skip
        have pre22 : own_Go p e below (s₁.setTop (entryFrame m #[(.int p1), (.int p2)] 2)) (s₁.setTop (mkF m 44 #[.val (.int p1), .val (.int p2)] [(.int (159 : Int32)), (.int p1)])) := fun t k => pre17 t (by
            show Steps p.tables e below (s₁.setTop (mkF m 37 #[.val (.int p1), .val (.int p2)] [(.int (127 : Int32)), (.int p1)])) _
            refine XS.icmpNo X0.here hx rfl (hb hby d4_37) rfl (XT.ii_lt_f c37_18) ?_
            show Steps p.tables e below (s₁.setTop (mkF m 40 #[.val (.int p1), .val (.int p2)] [])) _
            refine XS.iloadN X0.here hx rfl (hb hby d4_40) rfl ?_
            show Steps p.tables e below (s₁.setTop (mkF m 41 #[.val (.int p1), .val (.int p2)] [(.int p1)])) _
            refine XS.sipush X0.here hx rfl (hb hby d4_41) ?_
            exact k)
        by_cases c44_23 : (159 : Int32) < p1
        · skip
          have pre24 : own_Go p e below (s₁.setTop (entryFrame m #[(.int p1), (.int p2)] 2)) (s₁.setTop (mkF m 62 #[.val (.int p1), .val (.int p2)] [(.int p2), (.int p1)])) := fun t k => pre22 t (by
              show Steps p.tables e below (s₁.setTop (mkF m 44 #[.val (.int p1), .val (.int p2)] [(.int (159 : Int32)), (.int p1)])) _
              refine XS.icmpYes X0.here hx rfl (pc0 := 44) (pc' := 60) rfl (hb hby d4_44) rfl (XT.ii_gt_t c44_23) (by decide) (by decide) ?_
              show Steps p.tables e below (s₁.setTop (mkF m 60 #[.val (.int p1), .val (.int p2)] [])) _
              refine XS.iloadN X0.here hx rfl (hb hby d4_60) rfl ?_
              show Steps p.tables e below (s₁.setTop (mkF m 61 #[.val (.int p1), .val (.int p2)] [(.int p1)])) _
              refine XS.iloadN X0.here hx rfl (hb hby d4_61) rfl ?_
              exact k)
          obtain ⟨_, _, ⟨T25, L25, k25, n25⟩, -, X25, ⟨Lc25, hQ25, l25, y25, z25⟩, st25⟩ := Jvm.LawKit.callS X0 hx (y := (⟨"com/example/libxdm/libxdm/xml/XmlChars", "isChar", "(IZ)Z"⟩ : MethodName)) hown (mvT hZ (hw _ (List.mem_of_getElem? (i := 18) rfl))) (mvT hZ (hw _ (List.mem_of_getElem? (i := 5) rfl))) (mvT hZ (hw _ (List.mem_of_getElem? (i := 2) rfl))) (mvT hZ (hw _ (List.mem_of_getElem? (i := 6) rfl))) (by decide) (backOf (W := 0) (rm3 l Z a0 hw [] p1 p2 h0 n0 Z0 hc) hZ (hw _ (List.mem_of_getElem? (i := 6) rfl)) (hw _ (List.mem_of_getElem? (i := 2) rfl)) (by decide) (by decide)) (g := (mkF m 62 #[.val (.int p1), .val (.int p2)] [(.int p2), (.int p1)])) rfl (by rw [hml]; rfl) (argsL := [(.int p1), (.int p2)]) (rest := []) (lenOf pd_4_0 rfl) rfl (by show 2 * 0 + _ ≤ _; exact Nat.le_of_eq rfl) (hb hby d4_62) (fun _ _ => ⟨rfl, e0, (by decide : 0 + 0 ≤ _), (by decide : 0 + 0 ≤ _)⟩)
          dsimp only [Pt.U, Pt.locs, Pt.cells, Pt.slots] at X25 l25 y25 z25 st25 hQ25
          subst l25 y25 z25
          obtain ⟨rfl, N25q, hh25⟩ := hQ25
          have N25 := Fr.app N0 N25q
          have pre26 : own_Go p e below (s₁.setTop (entryFrame m #[(.int p1), (.int p2)] 2)) (T25.setTop (mkF m 65 #[.val (.int p1), .val (.int p2)] [(.int (1 : Int32))])) := fun t k => pre24 t (st25 t k)
          obtain ⟨fs, hr, hrun, hended, hW, hsame⟩ := X25.leave (v := some (.int (1 : Int32))) (fun h => by rw [Bd.returns] at h; cases h)
          refine ⟨_, _, pre26 _ ?_, hrun, hended, _, _, rfl, ?_, ⟨_, rfl⟩, hW, hsame.mono (by decide) (by decide)⟩
          · show Steps p.tables e below (T25.setTop (mkF m 65 #[.val (.int p1), .val (.int p2)] [(.int (1 : Int32))])) _
            exact retN X25 hx (t := .boolean) Bd.returns (by simp) (hb hby d4_65) hr
          · show Q4 Z p1 p2 h0 n0 _ T25.heap _
            exact ⟨rfl, N25, hh25⟩
        · skip
          have pre27 : own_Go p e below (s₁.setTop (entryFrame m #[(.int p1), (.int p2)] 2)) (s₁.setTop (mkF m 51 #[.val (.int p1), .val (.int p2)] [(.int (133 : Int32)), (.int p1)])) := fun t k => pre22 t (by
              show Steps p.tables e below (s₁.setTop (mkF m 44 #[.val (.int p1), .val (.int p2)] [(.int (159 : Int32)), (.int p1)])) _
              refine XS.icmpNo X0.here hx rfl (hb hby d4_44) rfl (XT.ii_gt_f c44_23) ?_
              show Steps p.tables e below (s₁.setTop (mkF m 47 #[.val (.int p1), .val (.int p2)] [])) _
              refine XS.iloadN X0.here hx rfl (hb hby d4_47) rfl ?_
              show Steps p.tables e below (s₁.setTop (mkF m 48 #[.val (.int p1), .val (.int p2)] [(.int p1)])) _
              refine XS.sipush X0.here hx rfl (hb hby d4_48) ?_
              exact k)
          by_cases c51_28 : p1 = (133 : Int32)
          · skip
            have pre29 : own_Go p e below (s₁.setTop (entryFrame m #[(.int p1), (.int p2)] 2)) (s₁.setTop (mkF m 59 #[.val (.int p1), .val (.int p2)] [(.int (1 : Int32))])) := fun t k => pre27 t (by
                show Steps p.tables e below (s₁.setTop (mkF m 51 #[.val (.int p1), .val (.int p2)] [(.int (133 : Int32)), (.int p1)])) _
                refine XS.icmpNo X0.here hx rfl (hb hby d4_51) rfl (XT.ii_ne_f c51_28) ?_
                show Steps p.tables e below (s₁.setTop (mkF m 54 #[.val (.int p1), .val (.int p2)] [])) _
                refine XS.iconst X0.here hx rfl (hb hby d4_54) ?_
                show Steps p.tables e below (s₁.setTop (mkF m 55 #[.val (.int p1), .val (.int p2)] [(.int (1 : Int32))])) _
                refine XS.goto X0.here hx rfl (pc0 := 55) (pc' := 59) rfl (hb hby d4_55) (by decide) (by decide) ?_
                exact k)
            obtain ⟨fs, hr, hrun, hended, hW, hsame⟩ := X0.leave (v := some (.int (1 : Int32))) (fun h => by rw [Bd.returns] at h; cases h)
            refine ⟨_, _, pre29 _ ?_, hrun, hended, _, _, rfl, ?_, ⟨_, rfl⟩, hW, hsame.mono (by decide) (by decide)⟩
            · show Steps p.tables e below (s₁.setTop (mkF m 59 #[.val (.int p1), .val (.int p2)] [(.int (1 : Int32))])) _
              exact retN X0 hx (t := .boolean) Bd.returns (by simp) (hb hby d4_59) hr
            · show Q4 Z p1 p2 h0 n0 _ s₁.heap _
              rw [e0]
              exact ⟨rfl, N0, rfl⟩
          · skip
            exact absurd hc (fun hq => by rcases hq with q | q | q | q <;> (rw [q] at c3_2 c37_18 c44_23 c51_28; revert c3_2 c37_18 c44_23 c51_28; decide))
def Q5 (Z : State) (p1 : Int32) (h0 : Heap) (n0 : Nat) (v : Option Value) (h : Heap) (L : List Loc) : Prop := v = some (.int (0 : Int32)) ∧ Fr n0 L ∧ h = h0
theorem d5_0 : decode prog_95_method_5_code 0 = .ok (.iload_n 0, 1) := by decide +kernel
theorem d5_1 : decode prog_95_method_5_code 1 = .ok (.sipush 133, 3) := by decide +kernel
theorem d5_4 : decode prog_95_method_5_code 4 = .ok (.if_icmp .eq 10, 3) := by decide +kernel
theorem d5_7 : decode prog_95_method_5_code 7 = .ok (.iload_n 0, 1) := by decide +kernel
theorem d5_8 : decode prog_95_method_5_code 8 = .ok (.sipush 8232, 3) := by decide +kernel
theorem d5_11 : decode prog_95_method_5_code 11 = .ok (.if_icmp .ne 7, 3) := by decide +kernel
theorem d5_14 : decode prog_95_method_5_code 14 = .ok (.iconst 1, 1) := by decide +kernel
theorem d5_15 : decode prog_95_method_5_code 15 = .ok (.goto 4, 3) := by decide +kernel
theorem d5_18 : decode prog_95_method_5_code 18 = .ok (.iconst 0, 1) := by decide +kernel
theorem d5_19 : decode prog_95_method_5_code 19 = .ok (.ireturn, 1) := by decide +kernel
theorem pn_5 : plainName "com/example/libxdm/libxdm/xml/XmlChars" = true := by first | (simp [plainName, overriddenIn]; done) | decide +kernel
theorem ef_5 (m : MethodId) (x0 : Int32) : entryFrame m #[(.int x0)] 1 = mkF m 0 #[.val (.int x0)] [] := by first | (simp [entryFrame, mkF, argsToLocals, Value.category]; done) | rfl
set_option maxRecDepth 65536 in
set_option maxHeartbeats 40000000 in
theorem rm5 (l : Launch) (Z : State) (a0 : Array Value) (hw : ∀ d ∈ tables_1, d.before a0 Z = true) (ws : List Jvm.Cond) (p1 : Int32) (h0 : Heap) (n0 : Nat) (Z0 : n0 ≤ h0.size) (hc : (p1 = 32 ∨ p1 = 10 ∨ p1 = 9 ∨ p1 = 13)) :
    MetFree l (⟨"com/example/libxdm/libxdm/xml/XmlChars", "isXml11LineEnd", "(C)Z"⟩ : MethodName) (head1 (Jvm.Cond.code (⟨"com/example/libxdm/libxdm/xml/XmlChars", "isXml11LineEnd", "(C)Z"⟩ : MethodName) prog_95_method_5_code 1 (some .boolean) :: ws) ({ frames := 0, cells := 0, slots := 0, locals := 0 } : Room)) (fun a U => a = #[(.int p1)] ∧ Z.Warmed39 U.vm ∧ U.heap = h0) (fun _ _ _ _ _ => True) (fun _ U o U' => ∃ v L, o = .returned v ∧ Q5 Z p1 h0 n0 v U'.heap L ∧ FrameEnd U o U' L ({ frames := 0, cells := 0, slots := 0, locals := 0 } : Room).cells ({ frames := 0, cells := 0, slots := 0, locals := 0 } : Room).slots) := by
  refine MetFree.of_bodySF (plainFor_of_name pn_5) hisR ?_
  intro p e s m args below meth c s₁ Bd hml0 hP hK
  obtain ⟨rfl, hZ, hh⟩ := hP
  have hx := Bd.exec
  have hby := Bd.bytes
  have hml : c.maxLocals = 1 := hml0
  have hown : s.vm.findClass "com/example/libxdm/libxdm/xml/XmlChars" = some m.cls := findClass_of_methodNamed Bd.named
  have hnm := (name_of_methodNamed Bd.named Bd.method).1
  have X0 : Stand p l e ({ frames := 0, cells := 0, slots := 0, locals := 0 } : Room) s m #[(.int p1)] below meth c s₁ [] 0 0 := Stand.of_body Bd
  have e0 : s₁.heap = h0 := by rw [← hh, Bd.state]; rfl
  have N0 := Fr.nil n0
  have pre0 : own_Go p e below (s₁.setTop (entryFrame m #[(.int p1)] 1)) (s₁.setTop (mkF m 0 #[.val (.int p1)] [])) := fun t k => castTop (ef_5 m p1) k
  have pre1 : own_Go p e below (s₁.setTop (entryFrame m #[(.int p1)] 1)) (s₁.setTop (mkF m 4 #[.val (.int p1)] [(.int (133 : Int32)), (.int p1)])) := fun t k => pre0 t (by
      show Steps p.tables e below (s₁.setTop (mkF m 0 #[.val (.int p1)] [])) _
      refine XS.iloadN X0.here hx rfl (hb hby d5_0) rfl ?_
      show Steps p.tables e below (s₁.setTop (mkF m 1 #[.val (.int p1)] [(.int p1)])) _
      refine XS.sipush X0.here hx rfl (hb hby d5_1) ?_
      exact k)
  by_cases c4_2 : p1 = (133 : Int32)
  · skip
    exact absurd hc (fun hq => by rcases hq with q | q | q | q <;> (rw [q] at c4_2; revert c4_2; decide))
  · skip
    have pre3 : own_Go p e below (s₁.setTop (entryFrame m #[(.int p1)] 1)) (s₁.setTop (mkF m 11 #[.val (.int p1)] [(.int (8232 : Int32)), (.int p1)])) := fun t k => pre1 t (by
        show Steps p.tables e below (s₁.setTop (mkF m 4 #[.val (.int p1)] [(.int (133 : Int32)), (.int p1)])) _
        refine XS.icmpNo X0.here hx rfl (hb hby d5_4) rfl (XT.ii_eq_f c4_2) ?_
        show Steps p.tables e below (s₁.setTop (mkF m 7 #[.val (.int p1)] [])) _
        refine XS.iloadN X0.here hx rfl (hb hby d5_7) rfl ?_
        show Steps p.tables e below (s₁.setTop (mkF m 8 #[.val (.int p1)] [(.int p1)])) _
        refine XS.sipush X0.here hx rfl (hb hby d5_8) ?_
        exact k)
    by_cases c11_4 : p1 = (8232 : Int32)
    · skip
      exact absurd hc (fun hq => by rcases hq with q | q | q | q <;> (rw [q] at c4_2 c11_4; revert c4_2 c11_4; decide))
    · skip
      have pre5 : own_Go p e below (s₁.setTop (entryFrame m #[(.int p1)] 1)) (s₁.setTop (mkF m 19 #[.val (.int p1)] [(.int (0 : Int32))])) := fun t k => pre3 t (by
          show Steps p.tables e below (s₁.setTop (mkF m 11 #[.val (.int p1)] [(.int (8232 : Int32)), (.int p1)])) _
          refine XS.icmpYes X0.here hx rfl (pc0 := 11) (pc' := 18) rfl (hb hby d5_11) rfl (XT.ii_ne_t c11_4) (by decide) (by decide) ?_
          show Steps p.tables e below (s₁.setTop (mkF m 18 #[.val (.int p1)] [])) _
          refine XS.iconst X0.here hx rfl (hb hby d5_18) ?_
          exact k)
      obtain ⟨fs, hr, hrun, hended, hW, hsame⟩ := X0.leave (v := some (.int (0 : Int32))) (fun h => by rw [Bd.returns] at h; cases h)
      refine ⟨_, _, pre5 _ ?_, hrun, hended, _, _, rfl, ?_, ⟨_, rfl⟩, hW, hsame.mono (by decide) (by decide)⟩
      · show Steps p.tables e below (s₁.setTop (mkF m 19 #[.val (.int p1)] [(.int (0 : Int32))])) _
        exact retN X0 hx (t := .boolean) Bd.returns (by simp) (hb hby d5_19) hr
      · show Q5 Z p1 h0 n0 _ s₁.heap _
        rw [e0]
        exact ⟨rfl, N0, rfl⟩
theorem own_i2c {x : Int32} (hc : (x = 32 ∨ x = 10 ∨ x = 9 ∨ x = 13)) : x.toUInt32.toUInt16.toUInt32.toInt32 = x := by rcases hc with rfl | rfl | rfl | rfl <;> decide
def Q0 (Z : State) (p1 : Int32) (h0 : Heap) (n0 : Nat) (v : Option Value) (h : Heap) (L : List Loc) : Prop := v = some (.int (1 : Int32)) ∧ Fr n0 L
theorem pn_0 : plainName "com/example/libxdm/libxdm/xml/XmlCharsIsSpacePinLaw" = true := by first | (simp [plainName, overriddenIn]; done) | decide +kernel
theorem pd_0_0 : parseMethodDescriptor "(I)Z" = some ⟨[.int], some .boolean⟩ := by decide +kernel
theorem pd_0_1 : parseMethodDescriptor "(IZ)Z" = some ⟨[.int, .boolean], some .boolean⟩ := by decide +kernel
theorem pd_0_2 : parseMethodDescriptor "(CZ)Z" = some ⟨[.char, .boolean], some .boolean⟩ := by decide +kernel
theorem pd_0_3 : parseMethodDescriptor "(C)Z" = some ⟨[.char], some .boolean⟩ := by decide +kernel
theorem ef_0 (m : MethodId) (x0 : Int32) : entryFrame m #[(.int x0)] maxLocals = mkF m 0 #[.val (.int x0), .unset, .unset, .unset] [] := by first | (simp [entryFrame, mkF, argsToLocals, Value.category, maxLocals]; done) | rfl
set_option maxRecDepth 65536 in
set_option maxHeartbeats 40000000 in
theorem rm0 (l : Launch) (Z : State) (a0 : Array Value) (hw : ∀ d ∈ tables_1, d.before a0 Z = true) (ws : List Jvm.Cond) (p1 : Int32) (h0 : Heap) (n0 : Nat) (Z0 : n0 ≤ h0.size)  :
    MetFree l x (head1 (Jvm.Cond.code x code maxLocals ret :: ws) room_1) (fun a U => a = #[(.int p1)] ∧ Z.Warmed39 U.vm ∧ U.heap = h0) (fun _ _ _ _ _ => True) (fun _ U o U' => ∃ v L, o = .returned v ∧ Q0 Z p1 h0 n0 v U'.heap L ∧ FrameEnd U o U' L room_1.cells room_1.slots) := by
  refine MetFree.of_bodySF (plainFor_of_name pn_0) hisR ?_
  intro p e s m args below meth c s₁ Bd hml0 hP hK
  obtain ⟨rfl, hZ, hh⟩ := hP
  have hx := Bd.exec
  have hby := Bd.bytes
  have hml : c.maxLocals = 4 := hml0
  have hown : s.vm.findClass "com/example/libxdm/libxdm/xml/XmlCharsIsSpacePinLaw" = some m.cls := findClass_of_methodNamed Bd.named
  have hnm := (name_of_methodNamed Bd.named Bd.method).1
  have X0 : Stand p l e room_1 s m #[(.int p1)] below meth c s₁ [] 0 0 := Stand.of_body Bd
  have e0 : s₁.heap = h0 := by rw [← hh, Bd.state]; rfl
  have N0 := Fr.nil n0
  have pre0 : own_Go p e below (s₁.setTop (entryFrame m #[(.int p1)] maxLocals)) (s₁.setTop (mkF m 0 #[.val (.int p1), .unset, .unset, .unset] [])) := fun t k => castTop (ef_0 m p1) k
  have pre1 : own_Go p e below (s₁.setTop (entryFrame m #[(.int p1)] maxLocals)) (s₁.setTop (mkF m 1 #[.val (.int p1), .unset, .unset, .unset] [(.int p1)])) := fun t k => pre0 t (by
      show Steps p.tables e below (s₁.setTop (mkF m 0 #[.val (.int p1), .unset, .unset, .unset] [])) _
      refine XS.iloadN X0.here hx rfl (hb hby at_0) rfl ?_
      exact k)
  by_cases hc : (p1 = 32 ∨ p1 = 10 ∨ p1 = 9 ∨ p1 = 13)
  · skip
    obtain ⟨_, _, ⟨T2, L2, k2, n2⟩, -, X2, ⟨Lc2, hQ2, l2, y2, z2⟩, st2⟩ := Jvm.LawKit.callS X0 hx (y := (⟨"com/example/libxdm/libxdm/xml/XmlChars", "isSpace", "(I)Z"⟩ : MethodName)) hown (mvT hZ (hw _ (List.mem_of_getElem? (i := 0) rfl))) (mvT hZ (hw _ (List.mem_of_getElem? (i := 1) rfl))) (mvT hZ (hw _ (List.mem_of_getElem? (i := 2) rfl))) (mvT hZ (hw _ (List.mem_of_getElem? (i := 3) rfl))) (by decide) (backOf (W := 0) (rm1 l Z a0 hw [] p1 h0 n0 Z0 hc) hZ (hw _ (List.mem_of_getElem? (i := 3) rfl)) (hw _ (List.mem_of_getElem? (i := 2) rfl)) (by decide) (by decide)) (g := (mkF m 1 #[.val (.int p1), .unset, .unset, .unset] [(.int p1)])) rfl (by rw [hml]; rfl) (argsL := [(.int p1)]) (rest := []) (lenOf pd_0_0 rfl) rfl (by show 2 * 0 + _ ≤ _; exact Nat.le_of_eq rfl) (hb hby at_1) (fun _ _ => ⟨rfl, e0, (by decide : 0 + 0 ≤ _), (by decide : 0 + 0 ≤ _)⟩)
    dsimp only [Pt.U, Pt.locs, Pt.cells, Pt.slots] at X2 l2 y2 z2 st2 hQ2
    subst l2 y2 z2
    obtain ⟨rfl, N2q, hh2⟩ := hQ2
    have N2 := Fr.app N0 N2q
    have pre3 : own_Go p e below (s₁.setTop (entryFrame m #[(.int p1)] maxLocals)) (T2.setTop (mkF m 4 #[.val (.int p1), .unset, .unset, .unset] [(.int (1 : Int32))])) := fun t k => pre1 t (st2 t k)
    have Z1 : n0 ≤ T2.heap.size := by rw [hh2]; exact Z0
    have pre4 : own_Go p e below (s₁.setTop (entryFrame m #[(.int p1)] maxLocals)) (T2.setTop (mkF m 8 #[.val (.int p1), .val (.int (1 : Int32)), .unset, .unset] [(.int (32 : Int32)), (.int p1)])) := fun t k => pre3 t (by
        show Steps p.tables e below (T2.setTop (mkF m 4 #[.val (.int p1), .unset, .unset, .unset] [(.int (1 : Int32))])) _
        refine XS.istoreN X2.here hx rfl (hb hby at_4) rfl (l' := #[.val (.int p1), .val (.int (1 : Int32)), .unset, .unset]) rfl ?_
        show Steps p.tables e below (T2.setTop (mkF m 5 #[.val (.int p1), .val (.int (1 : Int32)), .unset, .unset] [])) _
        refine XS.iloadN X2.here hx rfl (hb hby at_5) rfl ?_
        show Steps p.tables e below (T2.setTop (mkF m 6 #[.val (.int p1), .val (.int (1 : Int32)), .unset, .unset] [(.int p1)])) _
        refine XS.bipush X2.here hx rfl (hb hby at_6) ?_
        exact k)
    obtain ⟨x2, hx2, pre5⟩ : ∃ x2 : Int32, x2 = 1 ∧ own_Go p e below (s₁.setTop (entryFrame m #[(.int p1)] maxLocals)) (T2.setTop (mkF m 35 #[.val (.int p1), .val (.int (1 : Int32)), .val (.int x2), .unset] [])) := by
      by_cases c8_6 : p1 = (32 : Int32)
      · skip
        refine ⟨_, rfl, fun t k => pre4 t ?_⟩
        show Steps p.tables e below (T2.setTop (mkF m 8 #[.val (.int p1), .val (.int (1 : Int32)), .unset, .unset] [(.int (32 : Int32)), (.int p1)])) _
        refine XS.icmpYes X2.here hx rfl (pc0 := 8) (pc' := 29) rfl (hb hby at_8) rfl (XT.ii_eq_t c8_6) (by decide) (by decide) ?_
        show Steps p.tables e below (T2.setTop (mkF m 29 #[.val (.int p1), .val (.int (1 : Int32)), .unset, .unset] [])) _
        refine XS.iconst X2.here hx rfl (hb hby at_29) ?_
        show Steps p.tables e below (T2.setTop (mkF m 30 #[.val (.int p1), .val (.int (1 : Int32)), .unset, .unset] [(.int (1 : Int32))])) _
        refine XS.goto X2.here hx rfl (pc0 := 30) (pc' := 34) rfl (hb hby at_30) (by decide) (by decide) ?_
        show Steps p.tables e below (T2.setTop (mkF m 34 #[.val (.int p1), .val (.int (1 : Int32)), .unset, .unset] [(.int (1 : Int32))])) _
        refine XS.istoreN X2.here hx rfl (hb hby at_34) rfl (l' := #[.val (.int p1), .val (.int (1 : Int32)), .val (.int (1 : Int32)), .unset]) rfl ?_
        exact k
      · skip
        by_cases c14_7 : p1 = (9 : Int32)
        · skip
          refine ⟨_, rfl, fun t k => pre4 t ?_⟩
          show Steps p.tables e below (T2.setTop (mkF m 8 #[.val (.int p1), .val (.int (1 : Int32)), .unset, .unset] [(.int (32 : Int32)), (.int p1)])) _
          refine XS.icmpNo X2.here hx rfl (hb hby at_8) rfl (XT.ii_eq_f c8_6) ?_
          show Steps p.tables e below (T2.setTop (mkF m 11 #[.val (.int p1), .val (.int (1 : Int32)), .unset, .unset] [])) _
          refine XS.iloadN X2.here hx rfl (hb hby at_11) rfl ?_
          show Steps p.tables e below (T2.setTop (mkF m 12 #[.val (.int p1), .val (.int (1 : Int32)), .unset, .unset] [(.int p1)])) _
          refine XS.bipush X2.here hx rfl (hb hby at_12) ?_
          show Steps p.tables e below (T2.setTop (mkF m 14 #[.val (.int p1), .val (.int (1 : Int32)), .unset, .unset] [(.int (9 : Int32)), (.int p1)])) _
          refine XS.icmpYes X2.here hx rfl (pc0 := 14) (pc' := 29) rfl (hb hby at_14) rfl (XT.ii_eq_t c14_7) (by decide) (by decide) ?_
          show Steps p.tables e below (T2.setTop (mkF m 29 #[.val (.int p1), .val (.int (1 : Int32)), .unset, .unset] [])) _
          refine XS.iconst X2.here hx rfl (hb hby at_29) ?_
          show Steps p.tables e below (T2.setTop (mkF m 30 #[.val (.int p1), .val (.int (1 : Int32)), .unset, .unset] [(.int (1 : Int32))])) _
          refine XS.goto X2.here hx rfl (pc0 := 30) (pc' := 34) rfl (hb hby at_30) (by decide) (by decide) ?_
          show Steps p.tables e below (T2.setTop (mkF m 34 #[.val (.int p1), .val (.int (1 : Int32)), .unset, .unset] [(.int (1 : Int32))])) _
          refine XS.istoreN X2.here hx rfl (hb hby at_34) rfl (l' := #[.val (.int p1), .val (.int (1 : Int32)), .val (.int (1 : Int32)), .unset]) rfl ?_
          exact k
        · skip
          by_cases c20_8 : p1 = (10 : Int32)
          · skip
            refine ⟨_, rfl, fun t k => pre4 t ?_⟩
            show Steps p.tables e below (T2.setTop (mkF m 8 #[.val (.int p1), .val (.int (1 : Int32)), .unset, .unset] [(.int (32 : Int32)), (.int p1)])) _
            refine XS.icmpNo X2.here hx rfl (hb hby at_8) rfl (XT.ii_eq_f c8_6) ?_
            show Steps p.tables e below (T2.setTop (mkF m 11 #[.val (.int p1), .val (.int (1 : Int32)), .unset, .unset] [])) _
            refine XS.iloadN X2.here hx rfl (hb hby at_11) rfl ?_
            show Steps p.tables e below (T2.setTop (mkF m 12 #[.val (.int p1), .val (.int (1 : Int32)), .unset, .unset] [(.int p1)])) _
            refine XS.bipush X2.here hx rfl (hb hby at_12) ?_
            show Steps p.tables e below (T2.setTop (mkF m 14 #[.val (.int p1), .val (.int (1 : Int32)), .unset, .unset] [(.int (9 : Int32)), (.int p1)])) _
            refine XS.icmpNo X2.here hx rfl (hb hby at_14) rfl (XT.ii_eq_f c14_7) ?_
            show Steps p.tables e below (T2.setTop (mkF m 17 #[.val (.int p1), .val (.int (1 : Int32)), .unset, .unset] [])) _
            refine XS.iloadN X2.here hx rfl (hb hby at_17) rfl ?_
            show Steps p.tables e below (T2.setTop (mkF m 18 #[.val (.int p1), .val (.int (1 : Int32)), .unset, .unset] [(.int p1)])) _
            refine XS.bipush X2.here hx rfl (hb hby at_18) ?_
            show Steps p.tables e below (T2.setTop (mkF m 20 #[.val (.int p1), .val (.int (1 : Int32)), .unset, .unset] [(.int (10 : Int32)), (.int p1)])) _
            refine XS.icmpYes X2.here hx rfl (pc0 := 20) (pc' := 29) rfl (hb hby at_20) rfl (XT.ii_eq_t c20_8) (by decide) (by decide) ?_
            show Steps p.tables e below (T2.setTop (mkF m 29 #[.val (.int p1), .val (.int (1 : Int32)), .unset, .unset] [])) _
            refine XS.iconst X2.here hx rfl (hb hby at_29) ?_
            show Steps p.tables e below (T2.setTop (mkF m 30 #[.val (.int p1), .val (.int (1 : Int32)), .unset, .unset] [(.int (1 : Int32))])) _
            refine XS.goto X2.here hx rfl (pc0 := 30) (pc' := 34) rfl (hb hby at_30) (by decide) (by decide) ?_
            show Steps p.tables e below (T2.setTop (mkF m 34 #[.val (.int p1), .val (.int (1 : Int32)), .unset, .unset] [(.int (1 : Int32))])) _
            refine XS.istoreN X2.here hx rfl (hb hby at_34) rfl (l' := #[.val (.int p1), .val (.int (1 : Int32)), .val (.int (1 : Int32)), .unset]) rfl ?_
            exact k
          · skip
            by_cases c26_9 : p1 = (13 : Int32)
            · skip
              refine ⟨_, rfl, fun t k => pre4 t ?_⟩
              show Steps p.tables e below (T2.setTop (mkF m 8 #[.val (.int p1), .val (.int (1 : Int32)), .unset, .unset] [(.int (32 : Int32)), (.int p1)])) _
              refine XS.icmpNo X2.here hx rfl (hb hby at_8) rfl (XT.ii_eq_f c8_6) ?_
              show Steps p.tables e below (T2.setTop (mkF m 11 #[.val (.int p1), .val (.int (1 : Int32)), .unset, .unset] [])) _
              refine XS.iloadN X2.here hx rfl (hb hby at_11) rfl ?_
              show Steps p.tables e below (T2.setTop (mkF m 12 #[.val (.int p1), .val (.int (1 : Int32)), .unset, .unset] [(.int p1)])) _
              refine XS.bipush X2.here hx rfl (hb hby at_12) ?_
              show Steps p.tables e below (T2.setTop (mkF m 14 #[.val (.int p1), .val (.int (1 : Int32)), .unset, .unset] [(.int (9 : Int32)), (.int p1)])) _
              refine XS.icmpNo X2.here hx rfl (hb hby at_14) rfl (XT.ii_eq_f c14_7) ?_
              show Steps p.tables e below (T2.setTop (mkF m 17 #[.val (.int p1), .val (.int (1 : Int32)), .unset, .unset] [])) _
              refine XS.iloadN X2.here hx rfl (hb hby at_17) rfl ?_
              show Steps p.tables e below (T2.setTop (mkF m 18 #[.val (.int p1), .val (.int (1 : Int32)), .unset, .unset] [(.int p1)])) _
              refine XS.bipush X2.here hx rfl (hb hby at_18) ?_
              show Steps p.tables e below (T2.setTop (mkF m 20 #[.val (.int p1), .val (.int (1 : Int32)), .unset, .unset] [(.int (10 : Int32)), (.int p1)])) _
              refine XS.icmpNo X2.here hx rfl (hb hby at_20) rfl (XT.ii_eq_f c20_8) ?_
              show Steps p.tables e below (T2.setTop (mkF m 23 #[.val (.int p1), .val (.int (1 : Int32)), .unset, .unset] [])) _
              refine XS.iloadN X2.here hx rfl (hb hby at_23) rfl ?_
              show Steps p.tables e below (T2.setTop (mkF m 24 #[.val (.int p1), .val (.int (1 : Int32)), .unset, .unset] [(.int p1)])) _
              refine XS.bipush X2.here hx rfl (hb hby at_24) ?_
              show Steps p.tables e below (T2.setTop (mkF m 26 #[.val (.int p1), .val (.int (1 : Int32)), .unset, .unset] [(.int (13 : Int32)), (.int p1)])) _
              refine XS.icmpNo X2.here hx rfl (hb hby at_26) rfl (XT.ii_ne_f c26_9) ?_
              show Steps p.tables e below (T2.setTop (mkF m 29 #[.val (.int p1), .val (.int (1 : Int32)), .unset, .unset] [])) _
              refine XS.iconst X2.here hx rfl (hb hby at_29) ?_
              show Steps p.tables e below (T2.setTop (mkF m 30 #[.val (.int p1), .val (.int (1 : Int32)), .unset, .unset] [(.int (1 : Int32))])) _
              refine XS.goto X2.here hx rfl (pc0 := 30) (pc' := 34) rfl (hb hby at_30) (by decide) (by decide) ?_
              show Steps p.tables e below (T2.setTop (mkF m 34 #[.val (.int p1), .val (.int (1 : Int32)), .unset, .unset] [(.int (1 : Int32))])) _
              refine XS.istoreN X2.here hx rfl (hb hby at_34) rfl (l' := #[.val (.int p1), .val (.int (1 : Int32)), .val (.int (1 : Int32)), .unset]) rfl ?_
              exact k
            · skip
              exact absurd hc (fun hq => by rcases hq with q | q | q | q <;> (rw [q] at c8_6 c14_7 c20_8 c26_9; revert c8_6 c14_7 c20_8 c26_9; decide))
    subst hx2
    have pre10 : own_Go p e below (s₁.setTop (entryFrame m #[(.int p1)] maxLocals)) (T2.setTop (mkF m 48 #[.val (.int p1), .val (.int (1 : Int32)), .val (.int (1 : Int32)), .unset] [(.int (p1.toUInt32.toUInt16.toUInt32.toInt32))])) := fun t k => pre5 t (by
        show Steps p.tables e below (T2.setTop (mkF m 35 #[.val (.int p1), .val (.int (1 : Int32)), .val (.int (1 : Int32)), .unset] [])) _
        refine XS.iloadN X2.here hx rfl (hb hby at_35) rfl ?_
        show Steps p.tables e below (T2.setTop (mkF m 36 #[.val (.int p1), .val (.int (1 : Int32)), .val (.int (1 : Int32)), .unset] [(.int (1 : Int32))])) _
        refine XS.iloadN X2.here hx rfl (hb hby at_36) rfl ?_
        show Steps p.tables e below (T2.setTop (mkF m 37 #[.val (.int p1), .val (.int (1 : Int32)), .val (.int (1 : Int32)), .unset] [(.int (1 : Int32)), (.int (1 : Int32))])) _
        refine XS.icmpYes X2.here hx rfl (pc0 := 37) (pc' := 42) rfl (hb hby at_37) rfl (XT.ii_eq_t (by decide)) (by decide) (by decide) ?_
        show Steps p.tables e below (T2.setTop (mkF m 42 #[.val (.int p1), .val (.int (1 : Int32)), .val (.int (1 : Int32)), .unset] [])) _
        refine XS.iloadN X2.here hx rfl (hb hby at_42) rfl ?_
        show Steps p.tables e below (T2.setTop (mkF m 43 #[.val (.int p1), .val (.int (1 : Int32)), .val (.int (1 : Int32)), .unset] [(.int (1 : Int32))])) _
        refine XS.ifNo X2.here hx rfl (hb hby at_43) rfl (XT.i0_eq_f (by decide)) ?_
        show Steps p.tables e below (T2.setTop (mkF m 46 #[.val (.int p1), .val (.int (1 : Int32)), .val (.int (1 : Int32)), .unset] [])) _
        refine XS.iloadN X2.here hx rfl (hb hby at_46) rfl ?_
        show Steps p.tables e below (T2.setTop (mkF m 47 #[.val (.int p1), .val (.int (1 : Int32)), .val (.int (1 : Int32)), .unset] [(.int p1)])) _
        refine XT.i2c X2.here hx rfl (hb hby at_47) rfl ?_
        exact k)
    obtain ⟨ch, e_ch, pre11⟩ : ∃ ch : Int32, ch = (p1.toUInt32.toUInt16.toUInt32.toInt32) ∧ own_Go p e below (s₁.setTop (entryFrame m #[(.int p1)] maxLocals)) (T2.setTop (mkF m 48 #[.val (.int p1), .val (.int (1 : Int32)), .val (.int (1 : Int32)), .unset] [(.int ch)])) := ⟨_, rfl, pre10⟩
    rw [own_i2c hc] at e_ch
    have hcc : (ch = 32 ∨ ch = 10 ∨ ch = 9 ∨ ch = 13) := by rw [e_ch]; exact hc
    have pre12 : own_Go p e below (s₁.setTop (entryFrame m #[(.int p1)] maxLocals)) (T2.setTop (mkF m 51 #[.val (.int p1), .val (.int (1 : Int32)), .val (.int (1 : Int32)), .val (.int ch)] [(.int (0 : Int32)), (.int p1)])) := fun t k => pre11 t (by
        show Steps p.tables e below (T2.setTop (mkF m 48 #[.val (.int p1), .val (.int (1 : Int32)), .val (.int (1 : Int32)), .unset] [(.int ch)])) _
        refine XS.istoreN X2.here hx rfl (hb hby at_48) rfl (l' := #[.val (.int p1), .val (.int (1 : Int32)), .val (.int (1 : Int32)), .val (.int ch)]) rfl ?_
        show Steps p.tables e below (T2.setTop (mkF m 49 #[.val (.int p1), .val (.int (1 : Int32)), .val (.int (1 : Int32)), .val (.int ch)] [])) _
        refine XS.iloadN X2.here hx rfl (hb hby at_49) rfl ?_
        show Steps p.tables e below (T2.setTop (mkF m 50 #[.val (.int p1), .val (.int (1 : Int32)), .val (.int (1 : Int32)), .val (.int ch)] [(.int p1)])) _
        refine XS.iconst X2.here hx rfl (hb hby at_50) ?_
        exact k)
    obtain ⟨_, _, ⟨T13, L13, k13, n13⟩, -, X13, ⟨Lc13, hQ13, l13, y13, z13⟩, st13⟩ := Jvm.LawKit.callS X2 hx (y := (⟨"com/example/libxdm/libxdm/xml/XmlChars", "isChar", "(IZ)Z"⟩ : MethodName)) hown (mvT hZ (hw _ (List.mem_of_getElem? (i := 4) rfl))) (mvT hZ (hw _ (List.mem_of_getElem? (i := 5) rfl))) (mvT hZ (hw _ (List.mem_of_getElem? (i := 2) rfl))) (mvT hZ (hw _ (List.mem_of_getElem? (i := 6) rfl))) (by decide) (backOf (W := 0) (rm3 l Z a0 hw [] p1 0 T2.heap n0 Z1 hc) hZ (hw _ (List.mem_of_getElem? (i := 6) rfl)) (hw _ (List.mem_of_getElem? (i := 2) rfl)) (by decide) (by decide)) (g := (mkF m 51 #[.val (.int p1), .val (.int (1 : Int32)), .val (.int (1 : Int32)), .val (.int ch)] [(.int (0 : Int32)), (.int p1)])) rfl (by rw [hml]; rfl) (argsL := [(.int p1), (.int (0 : Int32))]) (rest := []) (lenOf pd_0_1 rfl) rfl (by show 2 * 0 + _ ≤ _; exact Nat.le_of_eq rfl) (hb hby at_51) (fun _ _ => ⟨rfl, rfl, (by decide : 0 + 0 ≤ _), (by decide : 0 + 0 ≤ _)⟩)
    dsimp only [Pt.U, Pt.locs, Pt.cells, Pt.slots] at X13 l13 y13 z13 st13 hQ13
    subst l13 y13 z13
    obtain ⟨rfl, N13q, hh13⟩ := hQ13
    have N13 := Fr.app N2 N13q
    have pre14 : own_Go p e below (s₁.setTop (entryFrame m #[(.int p1)] maxLocals)) (T13.setTop (mkF m 54 #[.val (.int p1), .val (.int (1 : Int32)), .val (.int (1 : Int32)), .val (.int ch)] [(.int (1 : Int32))])) := fun t k => pre12 t (st13 t k)
    have Z2 : n0 ≤ T13.heap.size := by rw [hh13]; exact Z1
    have pre15 : own_Go p e below (s₁.setTop (entryFrame m #[(.int p1)] maxLocals)) (T13.setTop (mkF m 59 #[.val (.int p1), .val (.int (1 : Int32)), .val (.int (1 : Int32)), .val (.int ch)] [(.int (1 : Int32)), (.int p1)])) := fun t k => pre14 t (by
        show Steps p.tables e below (T13.setTop (mkF m 54 #[.val (.int p1), .val (.int (1 : Int32)), .val (.int (1 : Int32)), .val (.int ch)] [(.int (1 : Int32))])) _
        refine XS.ifNo X13.here hx rfl (hb hby at_54) rfl (XT.i0_eq_f (by decide)) ?_
        show Steps p.tables e below (T13.setTop (mkF m 57 #[.val (.int p1), .val (.int (1 : Int32)), .val (.int (1 : Int32)), .val (.int ch)] [])) _
        refine XS.iloadN X13.here hx rfl (hb hby at_57) rfl ?_
        show Steps p.tables e below (T13.setTop (mkF m 58 #[.val (.int p1), .val (.int (1 : Int32)), .val (.int (1 : Int32)), .val (.int ch)] [(.int p1)])) _
        refine XS.iconst X13.here hx rfl (hb hby at_58) ?_
        exact k)
    obtain ⟨_, _, ⟨T16, L16, k16, n16⟩, -, X16, ⟨Lc16, hQ16, l16, y16, z16⟩, st16⟩ := Jvm.LawKit.callS X13 hx (y := (⟨"com/example/libxdm/libxdm/xml/XmlChars", "isChar", "(IZ)Z"⟩ : MethodName)) hown (mvT hZ (hw _ (List.mem_of_getElem? (i := 4) rfl))) (mvT hZ (hw _ (List.mem_of_getElem? (i := 5) rfl))) (mvT hZ (hw _ (List.mem_of_getElem? (i := 2) rfl))) (mvT hZ (hw _ (List.mem_of_getElem? (i := 6) rfl))) (by decide) (backOf (W := 0) (rm3 l Z a0 hw [] p1 1 T13.heap n0 Z2 hc) hZ (hw _ (List.mem_of_getElem? (i := 6) rfl)) (hw _ (List.mem_of_getElem? (i := 2) rfl)) (by decide) (by decide)) (g := (mkF m 59 #[.val (.int p1), .val (.int (1 : Int32)), .val (.int (1 : Int32)), .val (.int ch)] [(.int (1 : Int32)), (.int p1)])) rfl (by rw [hml]; rfl) (argsL := [(.int p1), (.int (1 : Int32))]) (rest := []) (lenOf pd_0_1 rfl) rfl (by show 2 * 0 + _ ≤ _; exact Nat.le_of_eq rfl) (hb hby at_59) (fun _ _ => ⟨rfl, rfl, (by decide : 0 + 0 ≤ _), (by decide : 0 + 0 ≤ _)⟩)
    dsimp only [Pt.U, Pt.locs, Pt.cells, Pt.slots] at X16 l16 y16 z16 st16 hQ16
    subst l16 y16 z16
    obtain ⟨rfl, N16q, hh16⟩ := hQ16
    have N16 := Fr.app N13 N16q
    have pre17 : own_Go p e below (s₁.setTop (entryFrame m #[(.int p1)] maxLocals)) (T16.setTop (mkF m 62 #[.val (.int p1), .val (.int (1 : Int32)), .val (.int (1 : Int32)), .val (.int ch)] [(.int (1 : Int32))])) := fun t k => pre15 t (st16 t k)
    have Z3 : n0 ≤ T16.heap.size := by rw [hh16]; exact Z2
    have pre18 : own_Go p e below (s₁.setTop (entryFrame m #[(.int p1)] maxLocals)) (T16.setTop (mkF m 67 #[.val (.int p1), .val (.int (1 : Int32)), .val (.int (1 : Int32)), .val (.int ch)] [(.int (0 : Int32)), (.int ch)])) := fun t k => pre17 t (by
        show Steps p.tables e below (T16.setTop (mkF m 62 #[.val (.int p1), .val (.int (1 : Int32)), .val (.int (1 : Int32)), .val (.int ch)] [(.int (1 : Int32))])) _
        refine XS.ifNo X16.here hx rfl (hb hby at_62) rfl (XT.i0_eq_f (by decide)) ?_
        show Steps p.tables e below (T16.setTop (mkF m 65 #[.val (.int p1), .val (.int (1 : Int32)), .val (.int (1 : Int32)), .val (.int ch)] [])) _
        refine XS.iloadN X16.here hx rfl (hb hby at_65) rfl ?_
        show Steps p.tables e below (T16.setTop (mkF m 66 #[.val (.int p1), .val (.int (1 : Int32)), .val (.int (1 : Int32)), .val (.int ch)] [(.int ch)])) _
        refine XS.iconst X16.here hx rfl (hb hby at_66) ?_
        exact k)
    obtain ⟨_, _, ⟨T19, L19, k19, n19⟩, -, X19, ⟨Lc19, hQ19, l19, y19, z19⟩, st19⟩ := Jvm.LawKit.callS X16 hx (y := (⟨"com/example/libxdm/libxdm/xml/XmlChars", "isLiteral", "(CZ)Z"⟩ : MethodName)) hown (mvT hZ (hw _ (List.mem_of_getElem? (i := 7) rfl))) (mvT hZ (hw _ (List.mem_of_getElem? (i := 8) rfl))) (mvT hZ (hw _ (List.mem_of_getElem? (i := 2) rfl))) (mvT hZ (hw _ (List.mem_of_getElem? (i := 9) rfl))) (by decide) (backOf (W := 0) (rm4 l Z a0 hw [] ch 0 T16.heap n0 Z3 hcc) hZ (hw _ (List.mem_of_getElem? (i := 9) rfl)) (hw _ (List.mem_of_getElem? (i := 2) rfl)) (by decide) (by decide)) (g := (mkF m 67 #[.val (.int p1), .val (.int (1 : Int32)), .val (.int (1 : Int32)), .val (.int ch)] [(.int (0 : Int32)), (.int ch)])) rfl (by rw [hml]; rfl) (argsL := [(.int ch), (.int (0 : Int32))]) (rest := []) (lenOf pd_0_2 rfl) rfl (by show 2 * 0 + _ ≤ _; exact Nat.le_of_eq rfl) (hb hby at_67) (fun _ _ => ⟨rfl, rfl, (by decide : 0 + 0 ≤ _), (by decide : 0 + 0 ≤ _)⟩)
    dsimp only [Pt.U, Pt.locs, Pt.cells, Pt.slots] at X19 l19 y19 z19 st19 hQ19
    subst l19 y19 z19
    obtain ⟨rfl, N19q, hh19⟩ := hQ19
    have N19 := Fr.app N16 N19q
    have pre20 : own_Go p e below (s₁.setTop (entryFrame m #[(.int p1)] maxLocals)) (T19.setTop (mkF m 70 #[.val (.int p1), .val (.int (1 : Int32)), .val (.int (1 : Int32)), .val (.int ch)] [(.int (1 : Int32))])) := fun t k => pre18 t (st19 t k)
    have Z4 : n0 ≤ T19.heap.size := by rw [hh19]; exact Z3
    have pre21 : own_Go p e below (s₁.setTop (entryFrame m #[(.int p1)] maxLocals)) (T19.setTop (mkF m 75 #[.val (.int p1), .val (.int (1 : Int32)), .val (.int (1 : Int32)), .val (.int ch)] [(.int (1 : Int32)), (.int ch)])) := fun t k => pre20 t (by
        show Steps p.tables e below (T19.setTop (mkF m 70 #[.val (.int p1), .val (.int (1 : Int32)), .val (.int (1 : Int32)), .val (.int ch)] [(.int (1 : Int32))])) _
        refine XS.ifNo X19.here hx rfl (hb hby at_70) rfl (XT.i0_eq_f (by decide)) ?_
        show Steps p.tables e below (T19.setTop (mkF m 73 #[.val (.int p1), .val (.int (1 : Int32)), .val (.int (1 : Int32)), .val (.int ch)] [])) _
        refine XS.iloadN X19.here hx rfl (hb hby at_73) rfl ?_
        show Steps p.tables e below (T19.setTop (mkF m 74 #[.val (.int p1), .val (.int (1 : Int32)), .val (.int (1 : Int32)), .val (.int ch)] [(.int ch)])) _
        refine XS.iconst X19.here hx rfl (hb hby at_74) ?_
        exact k)
    obtain ⟨_, _, ⟨T22, L22, k22, n22⟩, -, X22, ⟨Lc22, hQ22, l22, y22, z22⟩, st22⟩ := Jvm.LawKit.callS X19 hx (y := (⟨"com/example/libxdm/libxdm/xml/XmlChars", "isLiteral", "(CZ)Z"⟩ : MethodName)) hown (mvT hZ (hw _ (List.mem_of_getElem? (i := 7) rfl))) (mvT hZ (hw _ (List.mem_of_getElem? (i := 8) rfl))) (mvT hZ (hw _ (List.mem_of_getElem? (i := 2) rfl))) (mvT hZ (hw _ (List.mem_of_getElem? (i := 9) rfl))) (by decide) (backOf (W := 0) (rm4 l Z a0 hw [] ch 1 T19.heap n0 Z4 hcc) hZ (hw _ (List.mem_of_getElem? (i := 9) rfl)) (hw _ (List.mem_of_getElem? (i := 2) rfl)) (by decide) (by decide)) (g := (mkF m 75 #[.val (.int p1), .val (.int (1 : Int32)), .val (.int (1 : Int32)), .val (.int ch)] [(.int (1 : Int32)), (.int ch)])) rfl (by rw [hml]; rfl) (argsL := [(.int ch), (.int (1 : Int32))]) (rest := []) (lenOf pd_0_2 rfl) rfl (by show 2 * 0 + _ ≤ _; exact Nat.le_of_eq rfl) (hb hby at_75) (fun _ _ => ⟨rfl, rfl, (by decide : 0 + 0 ≤ _), (by decide : 0 + 0 ≤ _)⟩)
    dsimp only [Pt.U, Pt.locs, Pt.cells, Pt.slots] at X22 l22 y22 z22 st22 hQ22
    subst l22 y22 z22
    obtain ⟨rfl, N22q, hh22⟩ := hQ22
    have N22 := Fr.app N19 N22q
    have pre23 : own_Go p e below (s₁.setTop (entryFrame m #[(.int p1)] maxLocals)) (T22.setTop (mkF m 78 #[.val (.int p1), .val (.int (1 : Int32)), .val (.int (1 : Int32)), .val (.int ch)] [(.int (1 : Int32))])) := fun t k => pre21 t (st22 t k)
    have Z5 : n0 ≤ T22.heap.size := by rw [hh22]; exact Z4
    have pre24 : own_Go p e below (s₁.setTop (entryFrame m #[(.int p1)] maxLocals)) (T22.setTop (mkF m 82 #[.val (.int p1), .val (.int (1 : Int32)), .val (.int (1 : Int32)), .val (.int ch)] [(.int ch)])) := fun t k => pre23 t (by
        show Steps p.tables e below (T22.setTop (mkF m 78 #[.val (.int p1), .val (.int (1 : Int32)), .val (.int (1 : Int32)), .val (.int ch)] [(.int (1 : Int32))])) _
        refine XS.ifNo X22.here hx rfl (hb hby at_78) rfl (XT.i0_eq_f (by decide)) ?_
        show Steps p.tables e below (T22.setTop (mkF m 81 #[.val (.int p1), .val (.int (1 : Int32)), .val (.int (1 : Int32)), .val (.int ch)] [])) _
        refine XS.iloadN X22.here hx rfl (hb hby at_81) rfl ?_
        exact k)
    obtain ⟨_, _, ⟨T25, L25, k25, n25⟩, -, X25, ⟨Lc25, hQ25, l25, y25, z25⟩, st25⟩ := Jvm.LawKit.callS X22 hx (y := (⟨"com/example/libxdm/libxdm/xml/XmlChars", "isXml11LineEnd", "(C)Z"⟩ : MethodName)) hown (mvT hZ (hw _ (List.mem_of_getElem? (i := 10) rfl))) (mvT hZ (hw _ (List.mem_of_getElem? (i := 11) rfl))) (mvT hZ (hw _ (List.mem_of_getElem? (i := 2) rfl))) (mvT hZ (hw _ (List.mem_of_getElem? (i := 12) rfl))) (by decide) (backOf (W := 0) (rm5 l Z a0 hw [] ch T22.heap n0 Z5 hcc) hZ (hw _ (List.mem_of_getElem? (i := 12) rfl)) (hw _ (List.mem_of_getElem? (i := 2) rfl)) (by decide) (by decide)) (g := (mkF m 82 #[.val (.int p1), .val (.int (1 : Int32)), .val (.int (1 : Int32)), .val (.int ch)] [(.int ch)])) rfl (by rw [hml]; rfl) (argsL := [(.int ch)]) (rest := []) (lenOf pd_0_3 rfl) rfl (by show 2 * 0 + _ ≤ _; exact Nat.le_of_eq rfl) (hb hby at_82) (fun _ _ => ⟨rfl, rfl, (by decide : 0 + 0 ≤ _), (by decide : 0 + 0 ≤ _)⟩)
    dsimp only [Pt.U, Pt.locs, Pt.cells, Pt.slots] at X25 l25 y25 z25 st25 hQ25
    subst l25 y25 z25
    obtain ⟨rfl, N25q, hh25⟩ := hQ25
    have N25 := Fr.app N22 N25q
    have pre26 : own_Go p e below (s₁.setTop (entryFrame m #[(.int p1)] maxLocals)) (T25.setTop (mkF m 85 #[.val (.int p1), .val (.int (1 : Int32)), .val (.int (1 : Int32)), .val (.int ch)] [(.int (0 : Int32))])) := fun t k => pre24 t (st25 t k)
    have Z6 : n0 ≤ T25.heap.size := by rw [hh25]; exact Z5
    have pre27 : own_Go p e below (s₁.setTop (entryFrame m #[(.int p1)] maxLocals)) (T25.setTop (mkF m 93 #[.val (.int p1), .val (.int (1 : Int32)), .val (.int (1 : Int32)), .val (.int ch)] [(.int (1 : Int32))])) := fun t k => pre26 t (by
        show Steps p.tables e below (T25.setTop (mkF m 85 #[.val (.int p1), .val (.int (1 : Int32)), .val (.int (1 : Int32)), .val (.int ch)] [(.int (0 : Int32))])) _
        refine XS.ifNo X25.here hx rfl (hb hby at_85) rfl (XT.i0_ne_f (by decide)) ?_
        show Steps p.tables e below (T25.setTop (mkF m 88 #[.val (.int p1), .val (.int (1 : Int32)), .val (.int (1 : Int32)), .val (.int ch)] [])) _
        refine XS.iconst X25.here hx rfl (hb hby at_88) ?_
        show Steps p.tables e below (T25.setTop (mkF m 89 #[.val (.int p1), .val (.int (1 : Int32)), .val (.int (1 : Int32)), .val (.int ch)] [(.int (1 : Int32))])) _
        refine XS.goto X25.here hx rfl (pc0 := 89) (pc' := 93) rfl (hb hby at_89) (by decide) (by decide) ?_
        exact k)
    obtain ⟨fs, hr, hrun, hended, hW, hsame⟩ := X25.leave (v := some (.int (1 : Int32))) (fun h => by rw [Bd.returns] at h; cases h)
    refine ⟨_, _, pre27 _ ?_, hrun, hended, _, _, rfl, ?_, ⟨_, rfl⟩, hW, hsame.mono (by decide) (by decide)⟩
    · show Steps p.tables e below (T25.setTop (mkF m 93 #[.val (.int p1), .val (.int (1 : Int32)), .val (.int (1 : Int32)), .val (.int ch)] [(.int (1 : Int32))])) _
      exact retN X25 hx (t := .boolean) Bd.returns (by simp) (hb hby at_93) hr
    · show Q0 Z p1 h0 n0 _ T25.heap _
      exact ⟨rfl, N25⟩
  · skip
    have hn := hc
    obtain ⟨_, _, ⟨T28, L28, k28, n28⟩, -, X28, ⟨Lc28, hQ28, l28, y28, z28⟩, st28⟩ := Jvm.LawKit.callS X0 hx (y := (⟨"com/example/libxdm/libxdm/xml/XmlChars", "isSpace", "(I)Z"⟩ : MethodName)) hown (mvT hZ (hw _ (List.mem_of_getElem? (i := 0) rfl))) (mvT hZ (hw _ (List.mem_of_getElem? (i := 1) rfl))) (mvT hZ (hw _ (List.mem_of_getElem? (i := 2) rfl))) (mvT hZ (hw _ (List.mem_of_getElem? (i := 3) rfl))) (by decide) (backOf (W := 0) (rm2 l Z a0 hw [] p1 h0 n0 Z0 hc) hZ (hw _ (List.mem_of_getElem? (i := 3) rfl)) (hw _ (List.mem_of_getElem? (i := 2) rfl)) (by decide) (by decide)) (g := (mkF m 1 #[.val (.int p1), .unset, .unset, .unset] [(.int p1)])) rfl (by rw [hml]; rfl) (argsL := [(.int p1)]) (rest := []) (lenOf pd_0_0 rfl) rfl (by show 2 * 0 + _ ≤ _; exact Nat.le_of_eq rfl) (hb hby at_1) (fun _ _ => ⟨rfl, e0, (by decide : 0 + 0 ≤ _), (by decide : 0 + 0 ≤ _)⟩)
    dsimp only [Pt.U, Pt.locs, Pt.cells, Pt.slots] at X28 l28 y28 z28 st28 hQ28
    subst l28 y28 z28
    obtain ⟨rfl, N28q, hh28⟩ := hQ28
    have N28 := Fr.app N0 N28q
    have pre29 : own_Go p e below (s₁.setTop (entryFrame m #[(.int p1)] maxLocals)) (T28.setTop (mkF m 4 #[.val (.int p1), .unset, .unset, .unset] [(.int (0 : Int32))])) := fun t k => pre1 t (st28 t k)
    have pre30 : own_Go p e below (s₁.setTop (entryFrame m #[(.int p1)] maxLocals)) (T28.setTop (mkF m 8 #[.val (.int p1), .val (.int (0 : Int32)), .unset, .unset] [(.int (32 : Int32)), (.int p1)])) := fun t k => pre29 t (by
        show Steps p.tables e below (T28.setTop (mkF m 4 #[.val (.int p1), .unset, .unset, .unset] [(.int (0 : Int32))])) _
        refine XS.istoreN X28.here hx rfl (hb hby at_4) rfl (l' := #[.val (.int p1), .val (.int (0 : Int32)), .unset, .unset]) rfl ?_
        show Steps p.tables e below (T28.setTop (mkF m 5 #[.val (.int p1), .val (.int (0 : Int32)), .unset, .unset] [])) _
        refine XS.iloadN X28.here hx rfl (hb hby at_5) rfl ?_
        show Steps p.tables e below (T28.setTop (mkF m 6 #[.val (.int p1), .val (.int (0 : Int32)), .unset, .unset] [(.int p1)])) _
        refine XS.bipush X28.here hx rfl (hb hby at_6) ?_
        exact k)
    obtain ⟨x2, hx2, pre31⟩ : ∃ x2 : Int32, x2 = 0 ∧ own_Go p e below (s₁.setTop (entryFrame m #[(.int p1)] maxLocals)) (T28.setTop (mkF m 35 #[.val (.int p1), .val (.int (0 : Int32)), .val (.int x2), .unset] [])) := by
      by_cases c8_32 : p1 = (32 : Int32)
      · skip
        exact absurd (c8_32 : p1 = _) (fun q => hn (by rw [q]; decide))
      · skip
        by_cases c14_33 : p1 = (9 : Int32)
        · skip
          exact absurd (c14_33 : p1 = _) (fun q => hn (by rw [q]; decide))
        · skip
          by_cases c20_34 : p1 = (10 : Int32)
          · skip
            exact absurd (c20_34 : p1 = _) (fun q => hn (by rw [q]; decide))
          · skip
            by_cases c26_35 : p1 = (13 : Int32)
            · skip
              exact absurd (c26_35 : p1 = _) (fun q => hn (by rw [q]; decide))
            · skip
              refine ⟨_, rfl, fun t k => pre30 t ?_⟩
              show Steps p.tables e below (T28.setTop (mkF m 8 #[.val (.int p1), .val (.int (0 : Int32)), .unset, .unset] [(.int (32 : Int32)), (.int p1)])) _
              refine XS.icmpNo X28.here hx rfl (hb hby at_8) rfl (XT.ii_eq_f c8_32) ?_
              show Steps p.tables e below (T28.setTop (mkF m 11 #[.val (.int p1), .val (.int (0 : Int32)), .unset, .unset] [])) _
              refine XS.iloadN X28.here hx rfl (hb hby at_11) rfl ?_
              show Steps p.tables e below (T28.setTop (mkF m 12 #[.val (.int p1), .val (.int (0 : Int32)), .unset, .unset] [(.int p1)])) _
              refine XS.bipush X28.here hx rfl (hb hby at_12) ?_
              show Steps p.tables e below (T28.setTop (mkF m 14 #[.val (.int p1), .val (.int (0 : Int32)), .unset, .unset] [(.int (9 : Int32)), (.int p1)])) _
              refine XS.icmpNo X28.here hx rfl (hb hby at_14) rfl (XT.ii_eq_f c14_33) ?_
              show Steps p.tables e below (T28.setTop (mkF m 17 #[.val (.int p1), .val (.int (0 : Int32)), .unset, .unset] [])) _
              refine XS.iloadN X28.here hx rfl (hb hby at_17) rfl ?_
              show Steps p.tables e below (T28.setTop (mkF m 18 #[.val (.int p1), .val (.int (0 : Int32)), .unset, .unset] [(.int p1)])) _
              refine XS.bipush X28.here hx rfl (hb hby at_18) ?_
              show Steps p.tables e below (T28.setTop (mkF m 20 #[.val (.int p1), .val (.int (0 : Int32)), .unset, .unset] [(.int (10 : Int32)), (.int p1)])) _
              refine XS.icmpNo X28.here hx rfl (hb hby at_20) rfl (XT.ii_eq_f c20_34) ?_
              show Steps p.tables e below (T28.setTop (mkF m 23 #[.val (.int p1), .val (.int (0 : Int32)), .unset, .unset] [])) _
              refine XS.iloadN X28.here hx rfl (hb hby at_23) rfl ?_
              show Steps p.tables e below (T28.setTop (mkF m 24 #[.val (.int p1), .val (.int (0 : Int32)), .unset, .unset] [(.int p1)])) _
              refine XS.bipush X28.here hx rfl (hb hby at_24) ?_
              show Steps p.tables e below (T28.setTop (mkF m 26 #[.val (.int p1), .val (.int (0 : Int32)), .unset, .unset] [(.int (13 : Int32)), (.int p1)])) _
              refine XS.icmpYes X28.here hx rfl (pc0 := 26) (pc' := 33) rfl (hb hby at_26) rfl (XT.ii_ne_t c26_35) (by decide) (by decide) ?_
              show Steps p.tables e below (T28.setTop (mkF m 33 #[.val (.int p1), .val (.int (0 : Int32)), .unset, .unset] [])) _
              refine XS.iconst X28.here hx rfl (hb hby at_33) ?_
              show Steps p.tables e below (T28.setTop (mkF m 34 #[.val (.int p1), .val (.int (0 : Int32)), .unset, .unset] [(.int (0 : Int32))])) _
              refine XS.istoreN X28.here hx rfl (hb hby at_34) rfl (l' := #[.val (.int p1), .val (.int (0 : Int32)), .val (.int (0 : Int32)), .unset]) rfl ?_
              exact k
    subst hx2
    have pre36 : own_Go p e below (s₁.setTop (entryFrame m #[(.int p1)] maxLocals)) (T28.setTop (mkF m 95 #[.val (.int p1), .val (.int (0 : Int32)), .val (.int (0 : Int32)), .unset] [(.int (1 : Int32))])) := fun t k => pre31 t (by
        show Steps p.tables e below (T28.setTop (mkF m 35 #[.val (.int p1), .val (.int (0 : Int32)), .val (.int (0 : Int32)), .unset] [])) _
        refine XS.iloadN X28.here hx rfl (hb hby at_35) rfl ?_
        show Steps p.tables e below (T28.setTop (mkF m 36 #[.val (.int p1), .val (.int (0 : Int32)), .val (.int (0 : Int32)), .unset] [(.int (0 : Int32))])) _
        refine XS.iloadN X28.here hx rfl (hb hby at_36) rfl ?_
        show Steps p.tables e below (T28.setTop (mkF m 37 #[.val (.int p1), .val (.int (0 : Int32)), .val (.int (0 : Int32)), .unset] [(.int (0 : Int32)), (.int (0 : Int32))])) _
        refine XS.icmpYes X28.here hx rfl (pc0 := 37) (pc' := 42) rfl (hb hby at_37) rfl (XT.ii_eq_t (by decide)) (by decide) (by decide) ?_
        show Steps p.tables e below (T28.setTop (mkF m 42 #[.val (.int p1), .val (.int (0 : Int32)), .val (.int (0 : Int32)), .unset] [])) _
        refine XS.iloadN X28.here hx rfl (hb hby at_42) rfl ?_
        show Steps p.tables e below (T28.setTop (mkF m 43 #[.val (.int p1), .val (.int (0 : Int32)), .val (.int (0 : Int32)), .unset] [(.int (0 : Int32))])) _
        refine XS.ifYes X28.here hx rfl (pc0 := 43) (pc' := 94) rfl (hb hby at_43) rfl (XT.i0_eq_t (by decide)) (by decide) (by decide) ?_
        show Steps p.tables e below (T28.setTop (mkF m 94 #[.val (.int p1), .val (.int (0 : Int32)), .val (.int (0 : Int32)), .unset] [])) _
        refine XS.iconst X28.here hx rfl (hb hby at_94) ?_
        exact k)
    obtain ⟨fs, hr, hrun, hended, hW, hsame⟩ := X28.leave (v := some (.int (1 : Int32))) (fun h => by rw [Bd.returns] at h; cases h)
    refine ⟨_, _, pre36 _ ?_, hrun, hended, _, _, rfl, ?_, ⟨_, rfl⟩, hW, hsame.mono (by decide) (by decide)⟩
    · show Steps p.tables e below (T28.setTop (mkF m 95 #[.val (.int p1), .val (.int (0 : Int32)), .val (.int (0 : Int32)), .unset] [(.int (1 : Int32))])) _
      exact retN X28 hx (t := .boolean) Bd.returns (by simp) (hb hby at_95) hr
    · show Q0 Z p1 h0 n0 _ T28.heap _
      exact ⟨rfl, N28⟩
set_option maxRecDepth 65536 in
set_option maxHeartbeats 40000000 in
theorem comes_1 {Post : Tables → Env → Array Value → State → Outcome → State → Prop} (hpost : ∀ tb e args s v u, (limb_1_1.after args s (.returned v) u = true ∧ limb_1_2.after args s (.returned v) u = true ∧ True) → FrameEnd s (.returned v) u (Jvm.fieldLocs frame_1_writes args s ++ Jvm.arrayLocs frame_1_arrays args s ++ Jvm.staticLocs frame_1_statics s) 0 0 → Post tb e args s (.returned v) u) :
    ArmFor flags0 classFile x code maxLocals ret World_1 tables_1 room_1 Calls_1 rest_1 Pre_1 Post := by
  intro l hfl _ _ p e ha hc hk s m args below hf hA hF happ hP
  obtain ⟨hcalls, hrest, hpre⟩ := hP
  obtain ⟨-, -, -, hnamed, -, -, -, hat⟩ := (Spec.applies_iff hf).mp happ
  obtain ⟨hg, hn⟩ := and_e (Cond.before_iff.mp (show (Jvm.Cond.and given_1 narrow_1).before args s = true from hpre))
  obtain ⟨gc, q0⟩ := and_e hg
  have ga0 := q0
  obtain ⟨w0, rfl⟩ : ∃ w0 : Value, args = #[w0] := by
    have hs : args.size = 1 := by simpa [Cond.value, given_1] using gc
    obtain ⟨L⟩ := args
    match L, hs with
    | [w0], _ => exact ⟨w0, rfl⟩
  have hw := fun d (hd : d ∈ tables_1) => atoms_spec (ws := Jvm.Cond.code x code maxLocals ret :: tables_1) hat d (List.mem_cons_of_mem _ hd)
  obtain ⟨i0, ei0⟩ := is_v ga0
  obtain rfl : w0 = (.int i0) := Option.some.inj ei0
  obtain ⟨n, o, h1, h2, h3, _, L, rfl, ⟨rfl, N⟩, hq⟩ := rm0 l s _ hw tables_1 i0 s.heap s.heap.size (Nat.le_refl _)  p e ha hc hk s m _ below hf ((Spec.applies_iff_loose hf).mp happ).1 ⟨rfl, State.Warmed39.refl s, rfl⟩ trivial
  refine ⟨n, _, h1, h2, h3, hpost _ _ _ _ _ _ ⟨Cond.after_iff.mpr rfl, Cond.after_iff.mpr (eq_i res_at (Term.int_eval (1)) rfl), trivial⟩ ⟨hq.1, hq.2.1, (hq.2.2.sift fun y hy => Or.inr (N y hy)).mono (by decide) (by decide)⟩⟩
theorem main_1_1 : Claimed_1_1 := comes_1 fun _ _ _ _ _ _ h hF => ⟨h.1, hF⟩
theorem main_1_2 : Claimed_1_2 := comes_1 fun _ _ _ _ _ _ h hF => ⟨h.2.1, hF⟩
end Jvm.Pilot.@@N@@
namespace Jvm.Pilot.@@N@@
open Jvm Jvm.ClassFile Sem Op Lib Jvm.Free Jvm.Stand Jvm.Pilot.@@N@@.Jvm.D
/-! MADE BY PROGRAM (witnessworld.py) out of the Statement's table words and the real class files: 9 classes; the members and pool entries that the words name. The judged class is class 1, her method 1. -/
namespace start1
open Jvm.ClassFile
def u (s : String) : CpInfo := .utf8 (stringToUtf16 s)
/-- a pool by its gaps: so many unusable entries, then the entry; so many at the end -/
def gap : Nat → List CpInfo → List CpInfo
  | 0, r => r
  | n + 1, r => .unusable :: gap n r
def poolList (es : List (Nat × CpInfo)) (last : Nat) : List CpInfo := es.foldr (fun e r => gap e.1 (e.2 :: r)) (gap last [])
def pool (es : List (Nat × CpInfo)) (last : Nat) : Array CpInfo := ⟨poolList es last⟩
def fileOf (pool : Array CpInfo) (this : Nat) (attrs : Array Attribute := #[]) (ms : Array MethodInfo := #[]) (fl : Nat := 33) (sup : Nat := 0) (ifs : Array Nat := #[]) (fds : Array FieldInfo := #[]) : ClassFile where
  minorVersion := 0
  majorVersion := 65
  constantPool := pool
  accessFlags := fl
  thisClass := this
  superClass := sup
  interfaces := ifs
  fields := fds
  methods := ms
  attributes := attrs
def plain (name : String) (sup : Option ClassId) : Class where
  name := name
  kind := .ordinary
  loader := none
  accessFlags := 33
  super := sup
  interfaces := #[]
  cf := none
  fields := #[]
  methods := #[]
  instanceTypes := #[]
  staticTypes := #[]
  resolved := #[]
  callSites := []
  init := .initialized
  statics := none
  mirror := none

def pool0 : Array CpInfo := pool [(5, u "<init>"), (0, u "()V"), (1, .class_ 10), (1, u "java/lang/Object")] 113

def k0m0 : Method := { name := "<init>", desc := "()V", sig := { parameters := [], returnType := none }, accessFlags := 1, code := none }
/-- java/lang/Object -/
def k0 : Class := { plain "java/lang/Object" none with
  accessFlags := 33
  interfaces := #[]
  cf := some (fileOf pool0 8 #[] #[{ accessFlags := 1, nameIndex := 5, descriptorIndex := 6, attributes := #[] }] 33 0 #[] #[])
  fields := #[]
  methods := #[k0m0]
  instanceTypes := #[]
  staticTypes := #[]
  resolved := Array.replicate 124 none
  statics := none }

def pool1 : Array CpInfo := pool [(2, .class_ 4), (1, u "java/lang/Object"), (0, u "<init>"), (0, u "()V"), (0, .methodref 8 9), (0, .class_ 10), (0, .nameAndType 11 12), (0, u "com/example/libxdm/libxdm/xml/XmlChars"), (0, u "isSpace"), (0, u "(I)Z"), (0, .methodref 8 14), (0, .nameAndType 15 16), (0, u "isChar"), (0, u "(IZ)Z"), (0, .methodref 8 18), (0, .nameAndType 19 20), (0, u "isLiteral"), (0, u "(CZ)Z"), (0, .methodref 8 22), (0, .nameAndType 23 24), (0, u "isXml11LineEnd"), (0, u "(C)Z"), (0, .class_ 26), (0, u "com/example/libxdm/libxdm/xml/XmlCharsIsSpacePinLaw"), (2, u "law")] 3

def k1m0 : Method := { name := "<init>", desc := "()V", sig := { parameters := [], returnType := none }, accessFlags := 2, code := none }
def k1c1 : Code := { maxStack := 2, maxLocals := 4, code := code, exceptionTable := #[], attributes := #[] }
def k1m1 : Method := { name := "law", desc := "(I)Z", sig := { parameters := [.int], returnType := some .boolean }, accessFlags := 9, code := some k1c1 }
/-- com/example/libxdm/libxdm/xml/XmlCharsIsSpacePinLaw -/
def k1 : Class := { plain "com/example/libxdm/libxdm/xml/XmlCharsIsSpacePinLaw" (some 0) with
  accessFlags := 49
  interfaces := #[]
  cf := some (fileOf pool1 25 #[] #[{ accessFlags := 2, nameIndex := 5, descriptorIndex := 6, attributes := #[] }, { accessFlags := 9, nameIndex := 29, descriptorIndex := 12, attributes := #[] }] 49 2 #[] #[])
  fields := #[]
  methods := #[k1m0, k1m1]
  instanceTypes := #[]
  staticTypes := #[]
  resolved := Array.replicate 33 none
  statics := none }

def pool2 : Array CpInfo := pool [(2, .class_ 4), (1, u "java/lang/Object"), (0, u "<init>"), (0, u "()V"), (0, .integer 55295), (0, .integer 57344), (0, .integer 65533), (0, .integer 65536), (0, .integer 1114111), (0, .class_ 13), (0, u "com/example/libxdm/libxdm/xml/XmlChars"), (0, .methodref 12 15), (0, .nameAndType 16 17), (0, u "isChar"), (0, u "(IZ)Z"), (0, u "NEXT_LINE"), (0, u "C"), (2, u "LINE_SEPARATOR"), (4, u "isLiteral"), (0, u "(CZ)Z"), (1, u "(C)Z"), (0, u "isXml11LineEnd"), (0, u "isSpace"), (0, u "(I)Z")] 2

def k2m0 : Method := { name := "<init>", desc := "()V", sig := { parameters := [], returnType := none }, accessFlags := 2, code := none }
def k2c1 : Code := { maxStack := 2, maxLocals := 2, code := prog_95_method_2_code, exceptionTable := #[], attributes := #[] }
def k2m1 : Method := { name := "isChar", desc := "(IZ)Z", sig := { parameters := [.int, .boolean], returnType := some .boolean }, accessFlags := 8, code := some k2c1 }
def k2c2 : Code := { maxStack := 2, maxLocals := 2, code := prog_95_method_3_code, exceptionTable := #[], attributes := #[] }
def k2m2 : Method := { name := "isLiteral", desc := "(CZ)Z", sig := { parameters := [.char, .boolean], returnType := some .boolean }, accessFlags := 8, code := some k2c2 }
def k2c3 : Code := { maxStack := 2, maxLocals := 1, code := prog_95_method_5_code, exceptionTable := #[], attributes := #[] }
def k2m3 : Method := { name := "isXml11LineEnd", desc := "(C)Z", sig := { parameters := [.char], returnType := some .boolean }, accessFlags := 8, code := some k2c3 }
def k2c4 : Code := { maxStack := 2, maxLocals := 1, code := prog_95_method_6_code, exceptionTable := #[], attributes := #[] }
def k2m4 : Method := { name := "isSpace", desc := "(I)Z", sig := { parameters := [.int], returnType := some .boolean }, accessFlags := 8, code := some k2c4 }
/-- com/example/libxdm/libxdm/xml/XmlChars -/
def k2 : Class := { plain "com/example/libxdm/libxdm/xml/XmlChars" (some 0) with
  accessFlags := 48
  interfaces := #[]
  cf := some (fileOf pool2 12 #[] #[{ accessFlags := 2, nameIndex := 5, descriptorIndex := 6, attributes := #[] }, { accessFlags := 8, nameIndex := 16, descriptorIndex := 17, attributes := #[] }, { accessFlags := 8, nameIndex := 27, descriptorIndex := 28, attributes := #[] }, { accessFlags := 8, nameIndex := 31, descriptorIndex := 30, attributes := #[] }, { accessFlags := 8, nameIndex := 32, descriptorIndex := 33, attributes := #[] }] 48 2 #[] #[{ accessFlags := 24, nameIndex := 18, descriptorIndex := 19, attributes := #[] }, { accessFlags := 26, nameIndex := 22, descriptorIndex := 19, attributes := #[] }])
  fields := #[{ name := "NEXT_LINE", type := .char, accessFlags := 24, slot := 0, constantValue := 0 }, { name := "LINE_SEPARATOR", type := .char, accessFlags := 26, slot := 1, constantValue := 0 }]
  methods := #[k2m0, k2m1, k2m2, k2m3, k2m4]
  instanceTypes := #[]
  staticTypes := #[.char, .char]
  resolved := Array.replicate 36 none
  statics := none }

def pool3 : Array CpInfo := pool [(1, u "java/lang/Cloneable"), (0, .class_ 1), (0, u "java/lang/Object"), (0, .class_ 3)] 3

/-- java/lang/Cloneable -/
def k3 : Class := { plain "java/lang/Cloneable" (some 0) with
  accessFlags := 1537
  interfaces := #[]
  cf := some (fileOf pool3 2 #[] #[] 1537 4 #[] #[])
  fields := #[]
  methods := #[]
  instanceTypes := #[]
  staticTypes := #[]
  resolved := Array.replicate 8 none
  statics := none }

def pool4 : Array CpInfo := pool [(1, u "java/io/Serializable"), (0, .class_ 1), (0, u "java/lang/Object"), (0, .class_ 3)] 3

/-- java/io/Serializable -/
def k4 : Class := { plain "java/io/Serializable" (some 0) with
  accessFlags := 1537
  interfaces := #[]
  cf := some (fileOf pool4 2 #[] #[] 1537 4 #[] #[])
  fields := #[]
  methods := #[]
  instanceTypes := #[]
  staticTypes := #[]
  resolved := Array.replicate 8 none
  statics := none }

/-- the primitive byte -/
def k5 : Class := { plain "byte" none with kind := .primitive 'B', accessFlags := 0x411 }
/-- [B -/
def k6 : Class := { plain "[B" (some 0) with kind := .array 5 .byte, interfaces := #[3, 4], accessFlags := 1041 }

/-- the primitive int -/
def k7 : Class := { plain "int" none with kind := .primitive 'I', accessFlags := 0x411 }
/-- [I -/
def k8 : Class := { plain "[I" (some 0) with kind := .array 7 .int, interfaces := #[3, 4], accessFlags := 1041 }

def heap : Heap := #[]
def classes : Array Class := #[k0, k1, k2, k3, k4, k5, k6, k7, k8]
def interned : List (Array UInt16 × Addr) := []
def slotsUsed : Nat := 0
def theMethod : MethodId := ⟨1, 1⟩
def args0 : Array Value := #[.int 5]
def aboutOver (below : List Frame) : State where
  vm := { classes := classes, interned := interned.toArray }
  heap := heap
  slotsUsed := slotsUsed
  threads := #[{ frames := .invoking theMethod args0 :: below }]
def below0 : List Frame := [.native { method := ⟨0, 0⟩, args := #[] }]
def about1 : State := aboutOver below0
def p0 : Program := .bare "" "" ""
def e0 : Env := launch0.env 0 0 0
theorem w_frames : about1.frames = Frame.invoking theMethod args0 :: below0 := rfl
set_option maxRecDepth 65536 in
theorem w_args : argsFit about1.vm theMethod args0 = true := by decide +kernel
set_option maxRecDepth 65536 in
theorem w_heap : heapFits about1 = true := by decide +kernel
set_option maxRecDepth 65536 in
theorem w_runnable : about1.curStatus? = some .runnable := by decide +kernel
set_option maxRecDepth 65536 in
theorem w_alone : about1.alone = true := by decide +kernel
set_option maxRecDepth 65536 in
theorem w_named : about1.methodNamed? x = some theMethod := by decide +kernel
set_option maxRecDepth 65536 in
theorem w_hears : about1.hears theMethod below0 = true := by decide +kernel
set_option maxRecDepth 65536 in
theorem w_ripe : about1.ripe theMethod args0 below0 = true := by decide +kernel
theorem w_running : about1.status = .running := rfl
set_option maxRecDepth 65536 in
theorem w_room : about1.hasRoom e0.platform room_1 = true :=
  launch0.hasRoom_least _ room_1 (by decide +kernel) (by decide +kernel) (by decide +kernel) (by decide +kernel) (by decide +kernel) (by decide +kernel)
theorem allAtoms_all (ts : List Jvm.Cond) (a : Array Jvm.Value) (st : Jvm.State) : (allAtoms ts).before a st = ts.all (fun c => c.before a st) := by
  induction ts with
  | nil => rfl
  | cons c t ih =>
    show (Jvm.Cond.and c (allAtoms t)).before a st = _
    rw [Jvm.Cond.before_and, ih, List.all_cons]
def words1 : List Jvm.Cond := Jvm.Cond.code x code maxLocals ret :: tables_1
/-- a 'code' word, met by the world's own term for the bytes: nothing is compared byte by byte -/
theorem code_word {y : MethodName} {bytes : ByteArray} {mx : Nat} {rt : Option FieldType} {a : Array Value} {s : State} {m : MethodId} {meth : Method} {c : Code} (h1 : s.methodNamed? y = some m) (h2 : s.vm.method? m = some meth) (h3 : meth.code = some c) (h4 : c.code = bytes)
    (h5 : (c.maxLocals == mx && c.exceptionTable.isEmpty && decide (c.maxStack ≤ mostOperands) && decide (meth.sig.returnType = rt) && !meth.locks && decide (parseMethodDescriptor y.desc = some meth.sig)) = true) : (Jvm.Cond.code y bytes mx rt).before a s = true := by
  simp only [Bool.and_eq_true, beq_iff_eq, Bool.not_eq_true', decide_eq_true_eq] at h5
  obtain ⟨⟨⟨⟨⟨g1, g2⟩, g3⟩, g4⟩, g5⟩, g6⟩ := h5
  simp [Cond.before, Cond.holds, Cond.value, h1, h2, h3, h4, g1, g2, g3, g4, g5, g6]
def isCode : Jvm.Cond → Bool
  | .code _ _ _ _ => true
  | _ => false
theorem all_split {L : List Jvm.Cond} {P : Jvm.Cond → Bool} (h1 : L.all (fun c => isCode c || P c) = true) (h2 : ∀ c ∈ L.filter isCode, P c = true) : L.all P = true := by
  refine List.all_eq_true.mpr fun c hc => ?_
  have h := List.all_eq_true.mp h1 c hc
  rcases Bool.eq_false_or_eq_true (isCode c) with hi | hi
  · exact h2 c (List.mem_filter.mpr ⟨hc, hi⟩)
  · simpa [hi] using h
set_option maxRecDepth 65536 in
theorem w_c0 : (Jvm.Cond.code x code maxLocals ret).before args0 about1 = true := code_word (m := ⟨1, 1⟩) (meth := k1m1) (c := k1c1) (by decide +kernel) rfl rfl rfl (by decide +kernel)
set_option maxRecDepth 65536 in
theorem w_c1 : (Jvm.Cond.code ({ cls := "com/example/libxdm/libxdm/xml/XmlChars", name := "isSpace", desc := "(I)Z" } : Jvm.MethodName) prog_95_method_6_code (1 : Nat) (Option.some Jvm.ClassFile.FieldType.boolean)).before args0 about1 = true := code_word (m := ⟨2, 4⟩) (meth := k2m4) (c := k2c4) (by decide +kernel) rfl rfl rfl (by decide +kernel)
set_option maxRecDepth 65536 in
theorem w_c2 : (Jvm.Cond.code ({ cls := "com/example/libxdm/libxdm/xml/XmlChars", name := "isChar", desc := "(IZ)Z" } : Jvm.MethodName) prog_95_method_2_code (2 : Nat) (Option.some Jvm.ClassFile.FieldType.boolean)).before args0 about1 = true := code_word (m := ⟨2, 1⟩) (meth := k2m1) (c := k2c1) (by decide +kernel) rfl rfl rfl (by decide +kernel)
set_option maxRecDepth 65536 in
theorem w_c3 : (Jvm.Cond.code ({ cls := "com/example/libxdm/libxdm/xml/XmlChars", name := "isLiteral", desc := "(CZ)Z" } : Jvm.MethodName) prog_95_method_3_code (2 : Nat) (Option.some Jvm.ClassFile.FieldType.boolean)).before args0 about1 = true := code_word (m := ⟨2, 2⟩) (meth := k2m2) (c := k2c2) (by decide +kernel) rfl rfl rfl (by decide +kernel)
set_option maxRecDepth 65536 in
theorem w_c4 : (Jvm.Cond.code ({ cls := "com/example/libxdm/libxdm/xml/XmlChars", name := "isXml11LineEnd", desc := "(C)Z" } : Jvm.MethodName) prog_95_method_5_code (1 : Nat) (Option.some Jvm.ClassFile.FieldType.boolean)).before args0 about1 = true := code_word (m := ⟨2, 3⟩) (meth := k2m3) (c := k2c3) (by decide +kernel) rfl rfl rfl (by decide +kernel)
def codes1 : List Jvm.Cond := [Jvm.Cond.code x code maxLocals ret, Jvm.Cond.code ({ cls := "com/example/libxdm/libxdm/xml/XmlChars", name := "isSpace", desc := "(I)Z" } : Jvm.MethodName) prog_95_method_6_code (1 : Nat) (Option.some Jvm.ClassFile.FieldType.boolean), Jvm.Cond.code ({ cls := "com/example/libxdm/libxdm/xml/XmlChars", name := "isChar", desc := "(IZ)Z" } : Jvm.MethodName) prog_95_method_2_code (2 : Nat) (Option.some Jvm.ClassFile.FieldType.boolean), Jvm.Cond.code ({ cls := "com/example/libxdm/libxdm/xml/XmlChars", name := "isLiteral", desc := "(CZ)Z" } : Jvm.MethodName) prog_95_method_3_code (2 : Nat) (Option.some Jvm.ClassFile.FieldType.boolean), Jvm.Cond.code ({ cls := "com/example/libxdm/libxdm/xml/XmlChars", name := "isXml11LineEnd", desc := "(C)Z" } : Jvm.MethodName) prog_95_method_5_code (1 : Nat) (Option.some Jvm.ClassFile.FieldType.boolean)]
set_option maxRecDepth 65536 in
theorem codes_eq : words1.filter isCode = codes1 := rfl
theorem w_codes : ∀ c ∈ words1.filter isCode, c.before args0 about1 = true := by
  rw [codes_eq]
  intro c hc
  simp only [codes1, List.mem_cons, List.not_mem_nil, or_false] at hc
  rcases hc with rfl | rfl | rfl | rfl | rfl
  · exact w_c0
  · exact w_c1
  · exact w_c2
  · exact w_c3
  · exact w_c4
set_option maxRecDepth 65536 in
theorem w_t1 : words1.all (fun c => isCode c || c.before args0 about1) = true := by decide +kernel
theorem w_tables : (allAtoms (Jvm.Cond.code x code maxLocals ret :: tables_1)).before args0 about1 = true := by
  rw [allAtoms_all]
  show words1.all (fun c => c.before args0 about1) = true
  refine all_split ?_ w_codes
  rw [w_t1]
set_option maxRecDepth 65536 in
theorem w_case : (Jvm.Cond.and given_1 narrow_1).before args0 about1 = true := by decide +kernel
theorem w_applies : (headSpec (Jvm.Cond.code x code maxLocals ret :: tables_1) room_1).applies x e0.platform about1 = true :=
  (Spec.applies_iff w_frames).mpr ⟨w_running, w_runnable, w_alone, w_named, w_hears, w_ripe, w_room, w_tables⟩
theorem atStart : AtStart classFile x code maxLocals ret World_1 tables_1 room_1 Calls_1 rest_1 Pre_1 launch0 p0 e0 about1 theMethod args0 below0 :=
  ⟨lists_1, trivial, launch0.admits_env _ _ _, launch0.least_env, fairChoices_fair.cas, fairChoices_fair.clock, w_frames, w_args, w_heap, w_applies, trivial, trivial, w_case⟩
end start1
theorem witness_1 : WitnessClaimed_1 := ⟨start1.p0, start1.e0, start1.about1, start1.theMethod, start1.args0, start1.below0, start1.atStart⟩
end Jvm.Pilot.@@N@@
