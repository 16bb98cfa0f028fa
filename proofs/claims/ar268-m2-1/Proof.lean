import JvmDerived
import JvmDerived.Pilot.@@N@@Statement
import JvmDerived.Pilot.@@N@@Code
set_option linter.unusedVariables false
set_option linter.unusedSimpArgs false
namespace Jvm.RoadKit
open Sem ClassFile Op Lib Jvm.Stand Jvm.Free Jvm.LawKit
section New
variable {p : Program} {l : Launch} {e : Env} {R : Room} {s : State} {m : MethodId} {args : Array Value} {below : List Frame} {meth : Method} {c : Code} {T : State} {locs : List Loc} {cells slots : Nat}
theorem retI (X : Stand p l e R s m args below meth c T locs cells slots) (hx : p.tables.exec = Jvm.exec) {pc : Nat} {Ls : Array Slot} {z : Int32} {rest : List Value} (hret : meth.sig.returnType = some .int) (hd : decode c.code pc = .ok (.ireturn, 1)) {fs : List Frame}
    (hl : ∀ (f : JFrame) (acts : List Action), f.method = m → f.locked = none → f.entered = [] → (doReturn e (T.setTop f) acts (some (.int z))).1 = T.setFrames fs) : Steps p.tables e below (T.setTop (mkF m pc Ls (.int z :: rest))) (T.setFrames fs) := by
  have hm' : T.vm.method? m = some meth := X.method'
  have hn : narrow .int (.int z) = .int z := rfl
  show Steps p.tables e below (T.setTop { method := m, pc := pc, locals := Ls, stack := _ :: rest, locked := none }) _
  jvm_step X.here [X.here.top, hx, hd, hm', hret, hn]
  first | (intro acts; rw [hl _ acts rfl rfl rfl]) | rw [hl _ _ rfl rfl rfl]
  exact Steps.refl _
end New
end Jvm.RoadKit
namespace Jvm.Pilot.@@N@@
open Jvm Jvm.ClassFile Sem Op Lib Jvm.Free Jvm.Stand Jvm.LawKit Jvm.RoadKit Bundle Jvm.Pilot.@@N@@.Jvm.D
def own_Go (p : Program) (e : Env) (below : List Frame) (A B : State) : Prop := ∀ t, Steps p.tables e below B t → Steps p.tables e below A t
def own_lk (e n : Int64) : Int32 := if n < e then 1 else 0
theorem own_lkt {e n : Int64} (h : n < e) : own_lk e n = 1 := if_pos h
theorem own_lkf {e n : Int64} (h : ¬ n < e) : own_lk e n = 0 := if_neg h
theorem own_lkmin (n : Int64) : own_lk (-9223372036854775808 : Int64) n = 0 := own_lkf (by
  rw [Int64.lt_iff_toInt_lt]
  have e : ((-9223372036854775808 : Int64)).toInt = -9223372036854775808 := by decide
  have := n.le_toInt
  omega)
theorem own_lkself (n : Int64) : own_lk n n = 0 := own_lkf (by rw [Int64.lt_iff_toInt_lt]; omega)
theorem own_lkpred {n : Int64} (h : ¬ n = (-9223372036854775808 : Int64)) : own_lk n (n - (1 : Int64)) = 1 := own_lkt (by
  have e : ((-9223372036854775808 : Int64)).toInt = -9223372036854775808 := by decide
  have h1 : n.toInt ≠ -9223372036854775808 := fun q => h (Int64.toInt_inj.mp (by rw [q, e]))
  have h2 := n.le_toInt
  have h3 := n.toInt_lt
  have e1 : (1 : Int64).toInt = 1 := by decide
  have h4 : (n - 1).toInt = n.toInt - 1 := by
    have q := XT.sub64 (x := n) (y := 1) ⟨by rw [e1]; omega, by rw [e1]; omega⟩
    rw [q, e1]
  rw [Int64.lt_iff_toInt_lt, h4]; omega)
def Q1 (Z : State) (a1 : Addr) (h0 : Heap) (n0 : Nat) (v : Option Value) (h : Heap) (L : List Loc) : Prop := v = none ∧ Fr n0 L ∧ h = h0
theorem d1_0 : decode jdk_22_method_1_code 0 = .ok (.aload_n 0, 1) := by decide +kernel
theorem d1_1 : decode jdk_22_method_1_code 1 = .ok (.invokespecial 1, 3) := by decide +kernel
theorem d1_4 : decode jdk_22_method_1_code 4 = .ok (.return_, 1) := by decide +kernel
theorem pn_1 : plainName "java/util/AbstractCollection" = true := by first | (simp [plainName, overriddenIn]; done) | decide +kernel
theorem ef_1 (m : MethodId) (x0 : Addr) : entryFrame m #[(.ref x0)] 1 = mkF m 0 #[.val (.ref x0)] [] := by first | (simp [entryFrame, mkF, argsToLocals, Value.category]; done) | rfl
set_option maxRecDepth 65536 in
set_option maxHeartbeats 40000000 in
theorem rm1 (l : Launch) (Z : State) (a0 : Array Value) (hw : ∀ d ∈ tables_1, d.before a0 Z = true) (ws : List Jvm.Cond) (a1 : Addr) (h0 : Heap) (n0 : Nat) (Z0 : n0 ≤ h0.size)  :
    MetFree l (⟨"java/util/AbstractCollection", "<init>", "()V"⟩ : MethodName) (head1 (Jvm.Cond.code (⟨"java/util/AbstractCollection", "<init>", "()V"⟩ : MethodName) jdk_22_method_1_code 1 none :: ws) ({ frames := 1, cells := 0, slots := 0, locals := 12 } : Room)) (fun a U => a = #[(.ref a1)] ∧ Z.Warmed39 U.vm ∧ U.heap = h0) (fun _ _ _ _ _ => True) (fun _ U o U' => ∃ v L, o = .returned v ∧ Q1 Z a1 h0 n0 v U'.heap L ∧ FrameEnd U o U' L ({ frames := 1, cells := 0, slots := 0, locals := 12 } : Room).cells ({ frames := 1, cells := 0, slots := 0, locals := 12 } : Room).slots) := by
  refine MetFree.of_bodySF (plainFor_of_name pn_1) hisR ?_
  intro p e s m args below meth c s₁ Bd hml0 hP hK
  obtain ⟨rfl, hZ, hh⟩ := hP
  have hx := Bd.exec
  have hby := Bd.bytes
  have hml : c.maxLocals = 1 := hml0
  have hown : s.vm.findClass "java/util/AbstractCollection" = some m.cls := findClass_of_methodNamed Bd.named
  have hnm := (name_of_methodNamed Bd.named Bd.method).1
  have X0 : Stand p l e ({ frames := 1, cells := 0, slots := 0, locals := 12 } : Room) s m #[(.ref a1)] below meth c s₁ [] 0 0 := Stand.of_body Bd
  have e0 : s₁.heap = h0 := by rw [← hh, Bd.state]; rfl
  have N0 := Fr.nil n0
  have pre0 : own_Go p e below (s₁.setTop (entryFrame m #[(.ref a1)] 1)) (s₁.setTop (mkF m 0 #[.val (.ref a1)] [])) := fun t k => castTop (ef_1 m a1) k
  have pre1 : own_Go p e below (s₁.setTop (entryFrame m #[(.ref a1)] 1)) (s₁.setTop (mkF m 1 #[.val (.ref a1)] [(.ref a1)])) := fun t k => pre0 t (by
      show Steps p.tables e below (s₁.setTop (mkF m 0 #[.val (.ref a1)] [])) _
      refine XS.aloadN X0.here hx rfl (hb hby d1_0) rfl rfl ?_
      exact k)
  obtain ⟨T2, X2, e2, st2⟩ := initO X0 hx hZ hown (hw _ (List.mem_of_getElem? (i := 21) rfl)) (hw _ (List.mem_of_getElem? (i := 7) rfl)) (hw _ (List.mem_of_getElem? (i := 8) rfl)) e0 (g := (mkF m 1 #[.val (.ref a1)] [(.ref a1)])) rfl (by rw [hml]; rfl) rfl (hb hby d1_1) (by decide) (W := 0) (by show 2 * 0 + _ ≤ _; exact Nat.le_of_eq rfl) (by decide)
  have pre3 : own_Go p e below (s₁.setTop (entryFrame m #[(.ref a1)] 1)) (T2.setTop (mkF m 4 #[.val (.ref a1)] [])) := fun t k => pre1 t (st2 t k)
  obtain ⟨fs, hr, hrun, hended, hW, hsame⟩ := X2.leave (v := none) (fun _ => rfl)
  refine ⟨_, _, pre3 _ ?_, hrun, hended, _, _, rfl, ?_, ⟨_, rfl⟩, hW, hsame.mono (by decide) (by decide)⟩
  · show Steps p.tables e below (T2.setTop (mkF m 4 #[.val (.ref a1)] [])) _
    exact X2.returnOut hx Bd.returns (hb hby d1_4) hr
  · show Q1 Z a1 h0 n0 _ T2.heap _
    rw [e2]
    exact ⟨rfl, N0, rfl⟩
def Q2 (Z : State) (a1 : Addr) (h0 : Heap) (n0 : Nat) (v : Option Value) (h : Heap) (L : List Loc) : Prop := v = none ∧ Fr n0 L ∧ Keep h0 h [a1]
theorem d2_0 : decode jdk_21_method_3_code 0 = .ok (.aload_n 0, 1) := by decide +kernel
theorem d2_1 : decode jdk_21_method_3_code 1 = .ok (.invokespecial 42, 3) := by decide +kernel
theorem d2_4 : decode jdk_21_method_3_code 4 = .ok (.aload_n 0, 1) := by decide +kernel
theorem d2_5 : decode jdk_21_method_3_code 5 = .ok (.bipush 17, 2) := by decide +kernel
theorem d2_7 : decode jdk_21_method_3_code 7 = .ok (.anewarray 47, 3) := by decide +kernel
theorem d2_10 : decode jdk_21_method_3_code 10 = .ok (.putfield 3, 3) := by decide +kernel
theorem d2_13 : decode jdk_21_method_3_code 13 = .ok (.return_, 1) := by decide +kernel
theorem pn_2 : plainName "java/util/ArrayDeque" = true := by first | (simp [plainName, overriddenIn]; done) | decide +kernel
theorem pd_2_0 : parseMethodDescriptor "()V" = some ⟨[], none⟩ := by decide +kernel
theorem ef_2 (m : MethodId) (x0 : Addr) : entryFrame m #[(.ref x0)] 1 = mkF m 0 #[.val (.ref x0)] [] := by first | (simp [entryFrame, mkF, argsToLocals, Value.category]; done) | rfl
set_option maxRecDepth 65536 in
set_option maxHeartbeats 40000000 in
theorem rm2 (l : Launch) (Z : State) (a0 : Array Value) (hw : ∀ d ∈ tables_1, d.before a0 Z = true) (ws : List Jvm.Cond) (a1 : Addr) (h0 : Heap) (n0 : Nat) (Z0 : n0 ≤ h0.size) (E1 : Exa Z h0 a1 "java/util/ArrayDeque") (F1 : Fld Z h0 a1 "java/util/ArrayDeque" "elements" "[Ljava/lang/Object;" .null) (g1 : n0 ≤ a1) :
    MetFree l (⟨"java/util/ArrayDeque", "<init>", "()V"⟩ : MethodName) (head1 (Jvm.Cond.code (⟨"java/util/ArrayDeque", "<init>", "()V"⟩ : MethodName) jdk_21_method_3_code 1 none :: ws) ({ frames := 2, cells := 1, slots := 17, locals := 24 } : Room)) (fun a U => a = #[(.ref a1)] ∧ Z.Warmed39 U.vm ∧ U.heap = h0) (fun _ _ _ _ _ => True) (fun _ U o U' => ∃ v L, o = .returned v ∧ Q2 Z a1 h0 n0 v U'.heap L ∧ FrameEnd U o U' L ({ frames := 2, cells := 1, slots := 17, locals := 24 } : Room).cells ({ frames := 2, cells := 1, slots := 17, locals := 24 } : Room).slots) := by
  refine MetFree.of_bodySF (plainFor_of_name pn_2) hisR ?_
  intro p e s m args below meth c s₁ Bd hml0 hP hK
  obtain ⟨rfl, hZ, hh⟩ := hP
  have hx := Bd.exec
  have hby := Bd.bytes
  have hml : c.maxLocals = 1 := hml0
  have hown : s.vm.findClass "java/util/ArrayDeque" = some m.cls := findClass_of_methodNamed Bd.named
  have hnm := (name_of_methodNamed Bd.named Bd.method).1
  have X0 : Stand p l e ({ frames := 2, cells := 1, slots := 17, locals := 24 } : Room) s m #[(.ref a1)] below meth c s₁ [] 0 0 := Stand.of_body Bd
  have e0 : s₁.heap = h0 := by rw [← hh, Bd.state]; rfl
  have N0 := Fr.nil n0
  have pre0 : own_Go p e below (s₁.setTop (entryFrame m #[(.ref a1)] 1)) (s₁.setTop (mkF m 0 #[.val (.ref a1)] [])) := fun t k => castTop (ef_2 m a1) k
  have pre1 : own_Go p e below (s₁.setTop (entryFrame m #[(.ref a1)] 1)) (s₁.setTop (mkF m 1 #[.val (.ref a1)] [(.ref a1)])) := fun t k => pre0 t (by
      show Steps p.tables e below (s₁.setTop (mkF m 0 #[.val (.ref a1)] [])) _
      refine XS.aloadN X0.here hx rfl (hb hby d2_0) rfl rfl ?_
      exact k)
  obtain ⟨_, _, ⟨T2, L2, k2, n2⟩, -, X2, ⟨Lc2, hQ2, l2, y2, z2⟩, st2⟩ := X0.specialBack hx (y := (⟨"java/util/AbstractCollection", "<init>", "()V"⟩ : MethodName)) rfl hown (mvT hZ (hw _ (List.mem_of_getElem? (i := 15) rfl))) (mvT hZ (hw _ (List.mem_of_getElem? (i := 16) rfl))) (mvT hZ (hw _ (List.mem_of_getElem? (i := 20) rfl))) (by decide) (backOf (W := 0) (rm1 l Z a0 hw [] a1 h0 n0 Z0) hZ (hw _ (List.mem_of_getElem? (i := 20) rfl)) (hw _ (List.mem_of_getElem? (i := 19) rfl)) (by decide) (by decide)) (g := (mkF m 1 #[.val (.ref a1)] [(.ref a1)])) rfl (by rw [hml]; rfl) (Steps.refl _) (a := a1) (argsL := []) (rest := []) (lenOf pd_2_0 rfl) rfl (by show 2 * 0 + _ ≤ _; exact Nat.le_of_eq rfl) (hb hby d2_1) (fun _ _ => ⟨rfl, e0, (by decide : 0 + 0 ≤ _), (by decide : 0 + 0 ≤ _)⟩)
  dsimp only [Pt.U, Pt.locs, Pt.cells, Pt.slots] at X2 l2 y2 z2 st2 hQ2
  subst l2 y2 z2
  obtain ⟨rfl, N2q, hh2⟩ := hQ2
  have N2 := Fr.app N0 N2q
  have pre3 : own_Go p e below (s₁.setTop (entryFrame m #[(.ref a1)] 1)) (T2.setTop (mkF m 4 #[.val (.ref a1)] [])) := fun t k => pre1 t (st2.trans k)
  rw [← hh2] at E1 F1
  have K1 : Keep h0 T2.heap [a1] := by rw [hh2]; exact Keep.refl h0 [a1]
  have pre4 : own_Go p e below (s₁.setTop (entryFrame m #[(.ref a1)] 1)) (T2.setTop (mkF m 7 #[.val (.ref a1)] [(.int (17 : Int32)), (.ref a1)])) := fun t k => pre3 t (by
      show Steps p.tables e below (T2.setTop (mkF m 4 #[.val (.ref a1)] [])) _
      refine XS.aloadN X2.here hx rfl (hb hby d2_4) rfl rfl ?_
      show Steps p.tables e below (T2.setTop (mkF m 5 #[.val (.ref a1)] [(.ref a1)])) _
      refine XS.bipush X2.here hx rfl (hb hby d2_5) ?_
      exact k)
  obtain ⟨T5, h5, k5, X5, e5, E5, A5, O5, st5⟩ := newR X2 hx hZ hown (hw _ (List.mem_of_getElem? (i := 22) rfl)) (hw _ (List.mem_of_getElem? (i := 23) rfl)) rfl (g := (mkF m 7 #[.val (.ref a1)] [(.int (17 : Int32)), (.ref a1)])) rfl (hb hby d2_7) rfl (by decide) (cap := 17) (by decide) (by decide) (by decide) (by decide)
  obtain ⟨b5, g5⟩ : ∃ z, z = T2.heap.size := ⟨_, rfl⟩
  rw [← g5] at A5 st5
  have V5 := Arv.new A5 (by decide)
  have pre6 : own_Go p e below (s₁.setTop (entryFrame m #[(.ref a1)] 1)) (T5.setTop (mkF m 10 #[.val (.ref a1)] [(.ref b5), (.ref a1)])) := fun t k => pre4 t (st5 t k)
  have F_7 := F1.ext E5
  have Ex_8 := E1.ext E5
  have K_9 := K1.ext E5
  have ne_a1_b5 : a1 ≠ b5 := Nat.ne_of_lt (Nat.lt_of_lt_of_eq E1.lt g5.symm)
  have sz_b5 : h0.size ≤ b5 := Nat.le_trans K1.1 (Nat.le_of_eq g5.symm)
  have g_b5 : n0 ≤ b5 := Nat.le_trans Z0 sz_b5
  obtain ⟨T10, h10, X10, e10, W10, st10⟩ := putF X5 hx hZ hown (host := "") (Or.inl (hw _ (List.mem_of_getElem? (i := 24) rfl))) Via.refl e5 F_7 Ex_8 (Or.inl (hw _ (List.mem_of_getElem? (i := 25) rfl))) (hw _ (List.mem_of_getElem? (i := 10) rfl)) (ty := (.array (.object "java/lang/Object"))) (by decide) rfl rfl (g := (mkF m 10 #[.val (.ref a1)] [(.ref b5), (.ref a1)])) rfl rfl (hb hby d2_10)
  have N10 := Fr.snoc X10 N2 g1
  have pre11 : own_Go p e below (s₁.setTop (entryFrame m #[(.ref a1)] 1)) (T10.setTop (mkF m 13 #[.val (.ref a1)] [])) := fun t k => pre6 t (st10 t k)
  have F_12 := F_7.same W10
  have Ex_13 := Ex_8.wr W10
  have V_14 := V5.other W10 (Ne.symm ne_a1_b5)
  have K_15 := K_9.wr W10 (Or.inl (List.mem_of_getElem? (i := 0) rfl))
  obtain ⟨fs, hr, hrun, hended, hW, hsame⟩ := X10.leave (v := none) (fun _ => rfl)
  refine ⟨_, _, pre11 _ ?_, hrun, hended, _, _, rfl, ?_, ⟨_, rfl⟩, hW, hsame.mono (by decide) (by decide)⟩
  · show Steps p.tables e below (T10.setTop (mkF m 13 #[.val (.ref a1)] [])) _
    exact X10.returnOut hx Bd.returns (hb hby d2_13) hr
  · show Q2 Z a1 h0 n0 _ T10.heap _
    rw [e10]
    exact ⟨rfl, N10, K_15⟩
def Q3 (Z : State) (a1 : Addr) (h0 : Heap) (n0 : Nat) (v : Option Value) (h : Heap) (L : List Loc) : Prop := v = none ∧ Fr n0 L ∧ Keep h0 h [a1] ∧ Exa Z h a1 "com/example/tallygate/tallygate/engine/KeyState" ∧ Fld Z h a1 "com/example/tallygate/tallygate/engine/KeyState" "lockEnd" "J" (.long (-9223372036854775808 : Int64)) ∧ Fld Z h a1 "com/example/tallygate/tallygate/engine/KeyState" "locker" "Lcom/example/tallygate/tallygate/engine/Admission;" .null
theorem d3_0 : decode prog_9_method_1_code 0 = .ok (.aload_n 0, 1) := by decide +kernel
theorem d3_1 : decode prog_9_method_1_code 1 = .ok (.invokespecial 1, 3) := by decide +kernel
theorem d3_4 : decode prog_9_method_1_code 4 = .ok (.aload_n 0, 1) := by decide +kernel
theorem d3_5 : decode prog_9_method_1_code 5 = .ok (.new 7, 3) := by decide +kernel
theorem d3_8 : decode prog_9_method_1_code 8 = .ok (.dup, 1) := by decide +kernel
theorem d3_9 : decode prog_9_method_1_code 9 = .ok (.invokespecial 9, 3) := by decide +kernel
theorem d3_12 : decode prog_9_method_1_code 12 = .ok (.putfield 10, 3) := by decide +kernel
theorem d3_15 : decode prog_9_method_1_code 15 = .ok (.aload_n 0, 1) := by decide +kernel
theorem d3_16 : decode prog_9_method_1_code 16 = .ok (.ldc2_w 18, 3) := by decide +kernel
theorem d3_19 : decode prog_9_method_1_code 19 = .ok (.putfield 20, 3) := by decide +kernel
theorem d3_22 : decode prog_9_method_1_code 22 = .ok (.return_, 1) := by decide +kernel
theorem pn_3 : plainName "com/example/tallygate/tallygate/engine/KeyState" = true := by first | (simp [plainName, overriddenIn]; done) | decide +kernel
theorem pd_3_0 : parseMethodDescriptor "()V" = some ⟨[], none⟩ := by decide +kernel
theorem ef_3 (m : MethodId) (x0 : Addr) : entryFrame m #[(.ref x0)] 1 = mkF m 0 #[.val (.ref x0)] [] := by first | (simp [entryFrame, mkF, argsToLocals, Value.category]; done) | rfl
set_option maxRecDepth 65536 in
set_option maxHeartbeats 40000000 in
theorem rm3 (l : Launch) (Z : State) (a0 : Array Value) (hw : ∀ d ∈ tables_1, d.before a0 Z = true) (ws : List Jvm.Cond) (a1 : Addr) (h0 : Heap) (n0 : Nat) (Z0 : n0 ≤ h0.size) (E1 : Exa Z h0 a1 "com/example/tallygate/tallygate/engine/KeyState") (F1 : Fld Z h0 a1 "com/example/tallygate/tallygate/engine/KeyState" "failures" "Ljava/util/ArrayDeque;" .null) (F2 : Fld Z h0 a1 "com/example/tallygate/tallygate/engine/KeyState" "lockEnd" "J" (.long (0 : Int64))) (F3 : Fld Z h0 a1 "com/example/tallygate/tallygate/engine/KeyState" "locker" "Lcom/example/tallygate/tallygate/engine/Admission;" .null) (g1 : n0 ≤ a1) :
    MetFree l (⟨"com/example/tallygate/tallygate/engine/KeyState", "<init>", "()V"⟩ : MethodName) (head1 (Jvm.Cond.code (⟨"com/example/tallygate/tallygate/engine/KeyState", "<init>", "()V"⟩ : MethodName) prog_9_method_1_code 1 none :: ws) ({ frames := 3, cells := 2, slots := 20, locals := 38 } : Room)) (fun a U => a = #[(.ref a1)] ∧ Z.Warmed39 U.vm ∧ U.heap = h0) (fun _ _ _ _ _ => True) (fun _ U o U' => ∃ v L, o = .returned v ∧ Q3 Z a1 h0 n0 v U'.heap L ∧ FrameEnd U o U' L ({ frames := 3, cells := 2, slots := 20, locals := 38 } : Room).cells ({ frames := 3, cells := 2, slots := 20, locals := 38 } : Room).slots) := by
  refine MetFree.of_bodySF (plainFor_of_name pn_3) hisR ?_
  intro p e s m args below meth c s₁ Bd hml0 hP hK
  obtain ⟨rfl, hZ, hh⟩ := hP
  have hx := Bd.exec
  have hby := Bd.bytes
  have hml : c.maxLocals = 1 := hml0
  have hown : s.vm.findClass "com/example/tallygate/tallygate/engine/KeyState" = some m.cls := findClass_of_methodNamed Bd.named
  have hnm := (name_of_methodNamed Bd.named Bd.method).1
  have X0 : Stand p l e ({ frames := 3, cells := 2, slots := 20, locals := 38 } : Room) s m #[(.ref a1)] below meth c s₁ [] 0 0 := Stand.of_body Bd
  have e0 : s₁.heap = h0 := by rw [← hh, Bd.state]; rfl
  have N0 := Fr.nil n0
  have pre0 : own_Go p e below (s₁.setTop (entryFrame m #[(.ref a1)] 1)) (s₁.setTop (mkF m 0 #[.val (.ref a1)] [])) := fun t k => castTop (ef_3 m a1) k
  have pre1 : own_Go p e below (s₁.setTop (entryFrame m #[(.ref a1)] 1)) (s₁.setTop (mkF m 1 #[.val (.ref a1)] [(.ref a1)])) := fun t k => pre0 t (by
      show Steps p.tables e below (s₁.setTop (mkF m 0 #[.val (.ref a1)] [])) _
      refine XS.aloadN X0.here hx rfl (hb hby d3_0) rfl rfl ?_
      exact k)
  obtain ⟨T2, X2, e2, st2⟩ := initO X0 hx hZ hown (hw _ (List.mem_of_getElem? (i := 6) rfl)) (hw _ (List.mem_of_getElem? (i := 7) rfl)) (hw _ (List.mem_of_getElem? (i := 8) rfl)) e0 (g := (mkF m 1 #[.val (.ref a1)] [(.ref a1)])) rfl (by rw [hml]; rfl) rfl (hb hby d3_1) (by decide) (W := 0) (by show 2 * 0 + _ ≤ _; exact Nat.le_of_eq rfl) (by decide)
  have pre3 : own_Go p e below (s₁.setTop (entryFrame m #[(.ref a1)] 1)) (T2.setTop (mkF m 4 #[.val (.ref a1)] [])) := fun t k => pre1 t (st2 t k)
  have pre4 : own_Go p e below (s₁.setTop (entryFrame m #[(.ref a1)] 1)) (T2.setTop (mkF m 5 #[.val (.ref a1)] [(.ref a1)])) := fun t k => pre3 t (by
      show Steps p.tables e below (T2.setTop (mkF m 4 #[.val (.ref a1)] [])) _
      refine XS.aloadN X2.here hx rfl (hb hby d3_4) rfl rfl ?_
      exact k)
  obtain ⟨T5, h5, X5, e5, E5, A5, D5, -, st5⟩ := newO X2 hx hZ hown (hw _ (List.mem_of_getElem? (i := 9) rfl)) (hw _ (List.mem_of_getElem? (i := 10) rfl)) (hw _ (List.mem_of_getElem? (i := 11) rfl)) e2 (g := (mkF m 5 #[.val (.ref a1)] [(.ref a1)])) rfl (hb hby d3_5) (by decide) (by decide)
  obtain ⟨b5, g5⟩ : ∃ z, z = h0.size := ⟨_, rfl⟩
  rw [← g5] at A5 D5 st5
  have pre6 : own_Go p e below (s₁.setTop (entryFrame m #[(.ref a1)] 1)) (T5.setTop (mkF m 8 #[.val (.ref a1)] [(.ref b5), (.ref a1)])) := fun t k => pre4 t (st5 t k)
  have F_7 := F1.ext E5
  have F_8 := F2.ext E5
  have F_9 := F3.ext E5
  have Ex_10 := E1.ext E5
  have K_11 := (Keep.refl h0 [a1]).ext E5
  have ne_a1_b5 : a1 ≠ b5 := Nat.ne_of_lt (Nat.lt_of_lt_of_eq E1.lt g5.symm)
  have sz_b5 : h0.size ≤ b5 := Nat.le_trans (Keep.refl h0 [a1]).1 (Nat.le_of_eq g5.symm)
  have g_b5 : n0 ≤ b5 := Nat.le_trans Z0 sz_b5
  have F_elements_5 : Fld Z h5 b5 "java/util/ArrayDeque" "elements" "[Ljava/lang/Object;" .null := D5 (Or.inl (hw _ (List.mem_of_getElem? (i := 25) rfl))) (ty := (.array (.object "java/lang/Object"))) (by decide)
  have Z1 : n0 ≤ h5.size := Nat.le_trans Z0 K_11.1
  have pre12 : own_Go p e below (s₁.setTop (entryFrame m #[(.ref a1)] 1)) (T5.setTop (mkF m 9 #[.val (.ref a1)] [(.ref b5), (.ref b5), (.ref a1)])) := fun t k => pre6 t (by
      show Steps p.tables e below (T5.setTop (mkF m 8 #[.val (.ref a1)] [(.ref b5), (.ref a1)])) _
      refine XS.dup X5.here hx rfl (hb hby d3_8) rfl rfl ?_
      exact k)
  obtain ⟨_, _, ⟨T13, L13, k13, n13⟩, -, X13, ⟨Lc13, hQ13, l13, y13, z13⟩, st13⟩ := X5.specialBack hx (y := (⟨"java/util/ArrayDeque", "<init>", "()V"⟩ : MethodName)) rfl hown (mvT hZ (hw _ (List.mem_of_getElem? (i := 12) rfl))) (mvT hZ (hw _ (List.mem_of_getElem? (i := 13) rfl))) (mvT hZ (hw _ (List.mem_of_getElem? (i := 14) rfl))) (by decide) (backOf (W := 2) (rm2 l Z a0 hw [] b5 h5 n0 Z1 A5 F_elements_5 g_b5) hZ (hw _ (List.mem_of_getElem? (i := 14) rfl)) (hw _ (List.mem_of_getElem? (i := 11) rfl)) (by decide) (by decide)) (g := (mkF m 9 #[.val (.ref a1)] [(.ref b5), (.ref b5), (.ref a1)])) rfl (by rw [hml]; rfl) (Steps.refl _) (a := b5) (argsL := []) (rest := [(.ref b5), (.ref a1)]) (lenOf pd_3_0 rfl) rfl (by show 2 * 0 + _ ≤ _; exact Nat.le_of_eq rfl) (hb hby d3_9) (fun _ _ => ⟨rfl, e5, (by decide : 1 + 1 ≤ _), (by decide : 3 + 17 ≤ _)⟩)
  dsimp only [Pt.U, Pt.locs, Pt.cells, Pt.slots] at X13 l13 y13 z13 st13 hQ13
  subst l13 y13 z13
  obtain ⟨rfl, N13q, K13⟩ := hQ13
  have N13 := Fr.app N0 N13q
  have pre14 : own_Go p e below (s₁.setTop (entryFrame m #[(.ref a1)] 1)) (T13.setTop (mkF m 12 #[.val (.ref a1)] [(.ref b5), (.ref a1)])) := fun t k => pre12 t (st13.trans k)
  have F_15 := F_7.keep K13 (ninS ne_a1_b5 nin0)
  have F_16 := F_8.keep K13 (ninS ne_a1_b5 nin0)
  have F_17 := F_9.keep K13 (ninS ne_a1_b5 nin0)
  have Ex_18 := Ex_10.keep K13
  have Ex_19 := A5.keep K13
  have K_20 := K_11.trans K13 (allS (Or.inr sz_b5) all0)
  obtain ⟨T21, h21, X21, e21, W21, st21⟩ := putF X13 hx hZ hown (host := "") (Or.inl (hw _ (List.mem_of_getElem? (i := 26) rfl))) Via.refl rfl F_15 Ex_18 (Or.inr ⟨(hw _ (List.mem_of_getElem? (i := 27) rfl)), rfl, hnm⟩) (hw _ (List.mem_of_getElem? (i := 1) rfl)) (ty := (.object "java/util/ArrayDeque")) (by decide) rfl rfl (g := (mkF m 12 #[.val (.ref a1)] [(.ref b5), (.ref a1)])) rfl rfl (hb hby d3_12)
  have N21 := Fr.snoc X21 N13 g1
  have pre22 : own_Go p e below (s₁.setTop (entryFrame m #[(.ref a1)] 1)) (T21.setTop (mkF m 15 #[.val (.ref a1)] [])) := fun t k => pre14 t (st21 t k)
  have F_23 := F_15.same W21
  have F_24 := F_16.other W21 (Or.inr (slot_ne (Or.inl (hw _ (List.mem_of_getElem? (i := 30) rfl))) (Or.inr (hw _ (List.mem_of_getElem? (i := 27) rfl))) (by decide) (t := .long) (by decide) (t' := (.object "java/util/ArrayDeque")) (by decide)))
  have F_25 := F_17.other W21 (Or.inr (slot_ne (Or.inl (hw _ (List.mem_of_getElem? (i := 42) rfl))) (Or.inr (hw _ (List.mem_of_getElem? (i := 27) rfl))) (by decide) (t := (.object "com/example/tallygate/tallygate/engine/Admission")) (by decide) (t' := (.object "java/util/ArrayDeque")) (by decide)))
  have Ex_26 := Ex_18.wr W21
  have Ex_27 := Ex_19.wr W21
  have K_28 := K_20.wr W21 (Or.inl (List.mem_of_getElem? (i := 0) rfl))
  have pre29 : own_Go p e below (s₁.setTop (entryFrame m #[(.ref a1)] 1)) (T21.setTop (mkF m 19 #[.val (.ref a1)] [(.long (-9223372036854775808 : Int64)), (.ref a1)])) := fun t k => pre22 t (by
      show Steps p.tables e below (T21.setTop (mkF m 15 #[.val (.ref a1)] [])) _
      refine XS.aloadN X21.here hx rfl (hb hby d3_15) rfl rfl ?_
      show Steps p.tables e below (T21.setTop (mkF m 16 #[.val (.ref a1)] [(.ref a1)])) _
      refine X21.ldc2J hx hown (mvT hZ (hw _ (List.mem_of_getElem? (i := 28) rfl))) rfl (hb hby d3_16) ?_
      exact k)
  obtain ⟨T30, h30, X30, e30, W30, st30⟩ := putF X21 hx hZ hown (host := "") (Or.inl (hw _ (List.mem_of_getElem? (i := 29) rfl))) Via.refl e21 F_24 Ex_26 (Or.inl (hw _ (List.mem_of_getElem? (i := 30) rfl))) (hw _ (List.mem_of_getElem? (i := 1) rfl)) (ty := .long) (by decide) rfl rfl (g := (mkF m 19 #[.val (.ref a1)] [(.long (-9223372036854775808 : Int64)), (.ref a1)])) rfl rfl (hb hby d3_19)
  have N30 := Fr.snoc X30 N21 g1
  have pre31 : own_Go p e below (s₁.setTop (entryFrame m #[(.ref a1)] 1)) (T30.setTop (mkF m 22 #[.val (.ref a1)] [])) := fun t k => pre29 t (st30 t k)
  have F_32 := F_23.other W30 (Or.inr (slot_ne (Or.inr (hw _ (List.mem_of_getElem? (i := 27) rfl))) (Or.inl (hw _ (List.mem_of_getElem? (i := 30) rfl))) (by decide) (t := (.object "java/util/ArrayDeque")) (by decide) (t' := .long) (by decide)))
  have F_33 := F_24.same W30
  have F_34 := F_25.other W30 (Or.inr (slot_ne (Or.inl (hw _ (List.mem_of_getElem? (i := 42) rfl))) (Or.inl (hw _ (List.mem_of_getElem? (i := 30) rfl))) (by decide) (t := (.object "com/example/tallygate/tallygate/engine/Admission")) (by decide) (t' := .long) (by decide)))
  have Ex_35 := Ex_26.wr W30
  have Ex_36 := Ex_27.wr W30
  have K_37 := K_28.wr W30 (Or.inl (List.mem_of_getElem? (i := 0) rfl))
  obtain ⟨fs, hr, hrun, hended, hW, hsame⟩ := X30.leave (v := none) (fun _ => rfl)
  refine ⟨_, _, pre31 _ ?_, hrun, hended, _, _, rfl, ?_, ⟨_, rfl⟩, hW, hsame.mono (by decide) (by decide)⟩
  · show Steps p.tables e below (T30.setTop (mkF m 22 #[.val (.ref a1)] [])) _
    exact X30.returnOut hx Bd.returns (hb hby d3_22) hr
  · show Q3 Z a1 h0 n0 _ T30.heap _
    rw [e30]
    exact ⟨rfl, N30, K_37, Ex_35, F_33, F_34⟩
def Q4 (Z : State) (a1 : Addr) (p2 p3 : Int64) (h0 : Heap) (n0 : Nat) (v : Option Value) (h : Heap) (L : List Loc) : Prop := v = some (.int (own_lk p3 p2)) ∧ Fr n0 L ∧ h = h0
theorem d4_0 : decode prog_9_method_3_code 0 = .ok (.aload_n 0, 1) := by decide +kernel
theorem d4_1 : decode prog_9_method_3_code 1 = .ok (.getfield 20, 3) := by decide +kernel
theorem d4_4 : decode prog_9_method_3_code 4 = .ok (.lload_n 1, 1) := by decide +kernel
theorem d4_5 : decode prog_9_method_3_code 5 = .ok (.lcmp, 1) := by decide +kernel
theorem d4_6 : decode prog_9_method_3_code 6 = .ok (.ifCond .le 7, 3) := by decide +kernel
theorem d4_9 : decode prog_9_method_3_code 9 = .ok (.iconst 1, 1) := by decide +kernel
theorem d4_10 : decode prog_9_method_3_code 10 = .ok (.goto 4, 3) := by decide +kernel
theorem d4_13 : decode prog_9_method_3_code 13 = .ok (.iconst 0, 1) := by decide +kernel
theorem d4_14 : decode prog_9_method_3_code 14 = .ok (.ireturn, 1) := by decide +kernel
theorem pn_4 : plainName "com/example/tallygate/tallygate/engine/KeyState" = true := by first | (simp [plainName, overriddenIn]; done) | decide +kernel
theorem ef_4 (m : MethodId) (x0 : Addr) (x1 : Int64) : entryFrame m #[(.ref x0), (.long x1)] 3 = mkF m 0 #[.val (.ref x0), .val (.long x1), .second] [] := by first | (simp [entryFrame, mkF, argsToLocals, Value.category]; done) | rfl
set_option maxRecDepth 65536 in
set_option maxHeartbeats 40000000 in
theorem rm4 (l : Launch) (Z : State) (a0 : Array Value) (hw : ∀ d ∈ tables_1, d.before a0 Z = true) (ws : List Jvm.Cond) (a1 : Addr) (p2 p3 : Int64) (h0 : Heap) (n0 : Nat) (Z0 : n0 ≤ h0.size) (F1 : Fld Z h0 a1 "com/example/tallygate/tallygate/engine/KeyState" "lockEnd" "J" (.long p3)) :
    MetFree l (⟨"com/example/tallygate/tallygate/engine/KeyState", "isLocked", "(J)Z"⟩ : MethodName) (head1 (Jvm.Cond.code (⟨"com/example/tallygate/tallygate/engine/KeyState", "isLocked", "(J)Z"⟩ : MethodName) prog_9_method_3_code 3 (some .boolean) :: ws) ({ frames := 0, cells := 0, slots := 0, locals := 0 } : Room)) (fun a U => a = #[(.ref a1), (.long p2)] ∧ Z.Warmed39 U.vm ∧ U.heap = h0) (fun _ _ _ _ _ => True) (fun _ U o U' => ∃ v L, o = .returned v ∧ Q4 Z a1 p2 p3 h0 n0 v U'.heap L ∧ FrameEnd U o U' L ({ frames := 0, cells := 0, slots := 0, locals := 0 } : Room).cells ({ frames := 0, cells := 0, slots := 0, locals := 0 } : Room).slots) := by
  refine MetFree.of_bodySF (plainFor_of_name pn_4) hisR ?_
  intro p e s m args below meth c s₁ Bd hml0 hP hK
  obtain ⟨rfl, hZ, hh⟩ := hP
  have hx := Bd.exec
  have hby := Bd.bytes
  have hml : c.maxLocals = 3 := hml0
  have hown : s.vm.findClass "com/example/tallygate/tallygate/engine/KeyState" = some m.cls := findClass_of_methodNamed Bd.named
  have hnm := (name_of_methodNamed Bd.named Bd.method).1
  have X0 : Stand p l e ({ frames := 0, cells := 0, slots := 0, locals := 0 } : Room) s m #[(.ref a1), (.long p2)] below meth c s₁ [] 0 0 := Stand.of_body Bd
  have e0 : s₁.heap = h0 := by rw [← hh, Bd.state]; rfl
  have N0 := Fr.nil n0
  have pre0 : own_Go p e below (s₁.setTop (entryFrame m #[(.ref a1), (.long p2)] 3)) (s₁.setTop (mkF m 0 #[.val (.ref a1), .val (.long p2), .second] [])) := fun t k => castTop (ef_4 m a1 p2) k
  have pre1 : own_Go p e below (s₁.setTop (entryFrame m #[(.ref a1), (.long p2)] 3)) (s₁.setTop (mkF m 1 #[.val (.ref a1), .val (.long p2), .second] [(.ref a1)])) := fun t k => pre0 t (by
      show Steps p.tables e below (s₁.setTop (mkF m 0 #[.val (.ref a1), .val (.long p2), .second] [])) _
      refine XS.aloadN X0.here hx rfl (hb hby d4_0) rfl rfl ?_
      exact k)
  obtain ⟨T2, X2, e2, st2⟩ := getF X0 hx hZ hown (host := "") (Or.inl (hw _ (List.mem_of_getElem? (i := 29) rfl))) Via.refl e0 F1 (g := (mkF m 1 #[.val (.ref a1), .val (.long p2), .second] [(.ref a1)])) rfl rfl (hb hby d4_1)
  have pre3 : own_Go p e below (s₁.setTop (entryFrame m #[(.ref a1), (.long p2)] 3)) (T2.setTop (mkF m 4 #[.val (.ref a1), .val (.long p2), .second] [(.long p3)])) := fun t k => pre1 t (st2 t k)
  have pre4 : own_Go p e below (s₁.setTop (entryFrame m #[(.ref a1), (.long p2)] 3)) (T2.setTop (mkF m 6 #[.val (.ref a1), .val (.long p2), .second] [(.int (XT.cmpL p3 p2))])) := fun t k => pre3 t (by
      show Steps p.tables e below (T2.setTop (mkF m 4 #[.val (.ref a1), .val (.long p2), .second] [(.long p3)])) _
      refine XT.lloadN X2.here hx rfl (hb hby d4_4) rfl ?_
      show Steps p.tables e below (T2.setTop (mkF m 5 #[.val (.ref a1), .val (.long p2), .second] [(.long p2), (.long p3)])) _
      refine XT.lcmp X2.here hx rfl (hb hby d4_5) rfl ?_
      exact k)
  by_cases c6_5 : p2 < p3
  · skip
    have pre6 : own_Go p e below (s₁.setTop (entryFrame m #[(.ref a1), (.long p2)] 3)) (T2.setTop (mkF m 14 #[.val (.ref a1), .val (.long p2), .second] [(.int (1 : Int32))])) := fun t k => pre4 t (by
        show Steps p.tables e below (T2.setTop (mkF m 6 #[.val (.ref a1), .val (.long p2), .second] [(.int (XT.cmpL p3 p2))])) _
        refine XS.ifNo X2.here hx rfl (hb hby d4_6) rfl (XT.ll_le_f c6_5) ?_
        show Steps p.tables e below (T2.setTop (mkF m 9 #[.val (.ref a1), .val (.long p2), .second] [])) _
        refine XS.iconst X2.here hx rfl (hb hby d4_9) ?_
        show Steps p.tables e below (T2.setTop (mkF m 10 #[.val (.ref a1), .val (.long p2), .second] [(.int (1 : Int32))])) _
        refine XS.goto X2.here hx rfl (pc0 := 10) (pc' := 14) rfl (hb hby d4_10) (by decide) (by decide) ?_
        exact k)
    obtain ⟨fs, hr, hrun, hended, hW, hsame⟩ := X2.leave (v := some (.int (1 : Int32))) (fun h => by rw [Bd.returns] at h; cases h)
    refine ⟨_, _, pre6 _ ?_, hrun, hended, _, _, rfl, ?_, ⟨_, rfl⟩, hW, hsame.mono (by decide) (by decide)⟩
    · show Steps p.tables e below (T2.setTop (mkF m 14 #[.val (.ref a1), .val (.long p2), .second] [(.int (1 : Int32))])) _
      exact retN X2 hx (t := .boolean) Bd.returns (by simp) (hb hby d4_14) hr
    · show Q4 Z a1 p2 p3 h0 n0 _ T2.heap _
      rw [e2]
      exact ⟨congrArg (fun z => some (Value.int z)) (own_lkt c6_5).symm, N0, rfl⟩
  · skip
    have pre7 : own_Go p e below (s₁.setTop (entryFrame m #[(.ref a1), (.long p2)] 3)) (T2.setTop (mkF m 14 #[.val (.ref a1), .val (.long p2), .second] [(.int (0 : Int32))])) := fun t k => pre4 t (by
        show Steps p.tables e below (T2.setTop (mkF m 6 #[.val (.ref a1), .val (.long p2), .second] [(.int (XT.cmpL p3 p2))])) _
        refine XS.ifYes X2.here hx rfl (pc0 := 6) (pc' := 13) rfl (hb hby d4_6) rfl (XT.ll_le_t c6_5) (by decide) (by decide) ?_
        show Steps p.tables e below (T2.setTop (mkF m 13 #[.val (.ref a1), .val (.long p2), .second] [])) _
        refine XS.iconst X2.here hx rfl (hb hby d4_13) ?_
        exact k)
    obtain ⟨fs, hr, hrun, hended, hW, hsame⟩ := X2.leave (v := some (.int (0 : Int32))) (fun h => by rw [Bd.returns] at h; cases h)
    refine ⟨_, _, pre7 _ ?_, hrun, hended, _, _, rfl, ?_, ⟨_, rfl⟩, hW, hsame.mono (by decide) (by decide)⟩
    · show Steps p.tables e below (T2.setTop (mkF m 14 #[.val (.ref a1), .val (.long p2), .second] [(.int (0 : Int32))])) _
      exact retN X2 hx (t := .boolean) Bd.returns (by simp) (hb hby d4_14) hr
    · show Q4 Z a1 p2 p3 h0 n0 _ T2.heap _
      rw [e2]
      exact ⟨congrArg (fun z => some (Value.int z)) (own_lkf c6_5).symm, N0, rfl⟩
def Q5 (Z : State) (a1 : Addr) (p2 : Int64) (h0 : Heap) (n0 : Nat) (v : Option Value) (h : Heap) (L : List Loc) : Prop := v = none ∧ Fr n0 L ∧ Keep h0 h [a1] ∧ Fld Z h a1 "com/example/tallygate/tallygate/engine/KeyState" "lockEnd" "J" (.long p2) ∧ Fld Z h a1 "com/example/tallygate/tallygate/engine/KeyState" "locker" "Lcom/example/tallygate/tallygate/engine/Admission;" .null
theorem d5_0 : decode prog_9_method_10_code 0 = .ok (.aload_n 0, 1) := by decide +kernel
theorem d5_1 : decode prog_9_method_10_code 1 = .ok (.lload_n 1, 1) := by decide +kernel
theorem d5_2 : decode prog_9_method_10_code 2 = .ok (.putfield 20, 3) := by decide +kernel
theorem d5_5 : decode prog_9_method_10_code 5 = .ok (.aload_n 0, 1) := by decide +kernel
theorem d5_6 : decode prog_9_method_10_code 6 = .ok (.aload_n 3, 1) := by decide +kernel
theorem d5_7 : decode prog_9_method_10_code 7 = .ok (.putfield 45, 3) := by decide +kernel
theorem d5_10 : decode prog_9_method_10_code 10 = .ok (.return_, 1) := by decide +kernel
theorem pn_5 : plainName "com/example/tallygate/tallygate/engine/KeyState" = true := by first | (simp [plainName, overriddenIn]; done) | decide +kernel
theorem ef_5 (m : MethodId) (x0 : Addr) (x1 : Int64) : entryFrame m #[(.ref x0), (.long x1), .null] 4 = mkF m 0 #[.val (.ref x0), .val (.long x1), .second, .val .null] [] := by first | (simp [entryFrame, mkF, argsToLocals, Value.category]; done) | rfl
set_option maxRecDepth 65536 in
set_option maxHeartbeats 40000000 in
theorem rm5 (l : Launch) (Z : State) (a0 : Array Value) (hw : ∀ d ∈ tables_1, d.before a0 Z = true) (ws : List Jvm.Cond) (a1 : Addr) (p2 : Int64) (u : Int64) (h0 : Heap) (n0 : Nat) (Z0 : n0 ≤ h0.size) (E1 : Exa Z h0 a1 "com/example/tallygate/tallygate/engine/KeyState") (F2 : Fld Z h0 a1 "com/example/tallygate/tallygate/engine/KeyState" "lockEnd" "J" (.long u)) (F3 : Fld Z h0 a1 "com/example/tallygate/tallygate/engine/KeyState" "locker" "Lcom/example/tallygate/tallygate/engine/Admission;" .null) (g1 : n0 ≤ a1) :
    MetFree l (⟨"com/example/tallygate/tallygate/engine/KeyState", "lock", "(JLcom/example/tallygate/tallygate/engine/Admission;)V"⟩ : MethodName) (head1 (Jvm.Cond.code (⟨"com/example/tallygate/tallygate/engine/KeyState", "lock", "(JLcom/example/tallygate/tallygate/engine/Admission;)V"⟩ : MethodName) prog_9_method_10_code 4 none :: ws) ({ frames := 0, cells := 0, slots := 0, locals := 0 } : Room)) (fun a U => a = #[(.ref a1), (.long p2), .null] ∧ Z.Warmed39 U.vm ∧ U.heap = h0) (fun _ _ _ _ _ => True) (fun _ U o U' => ∃ v L, o = .returned v ∧ Q5 Z a1 p2 h0 n0 v U'.heap L ∧ FrameEnd U o U' L ({ frames := 0, cells := 0, slots := 0, locals := 0 } : Room).cells ({ frames := 0, cells := 0, slots := 0, locals := 0 } : Room).slots) := by
  refine MetFree.of_bodySF (plainFor_of_name pn_5) hisR ?_
  intro p e s m args below meth c s₁ Bd hml0 hP hK
  obtain ⟨rfl, hZ, hh⟩ := hP
  have hx := Bd.exec
  have hby := Bd.bytes
  have hml : c.maxLocals = 4 := hml0
  have hown : s.vm.findClass "com/example/tallygate/tallygate/engine/KeyState" = some m.cls := findClass_of_methodNamed Bd.named
  have hnm := (name_of_methodNamed Bd.named Bd.method).1
  have X0 : Stand p l e ({ frames := 0, cells := 0, slots := 0, locals := 0 } : Room) s m #[(.ref a1), (.long p2), .null] below meth c s₁ [] 0 0 := Stand.of_body Bd
  have e0 : s₁.heap = h0 := by rw [← hh, Bd.state]; rfl
  have N0 := Fr.nil n0
  have pre0 : own_Go p e below (s₁.setTop (entryFrame m #[(.ref a1), (.long p2), .null] 4)) (s₁.setTop (mkF m 0 #[.val (.ref a1), .val (.long p2), .second, .val .null] [])) := fun t k => castTop (ef_5 m a1 p2) k
  have pre1 : own_Go p e below (s₁.setTop (entryFrame m #[(.ref a1), (.long p2), .null] 4)) (s₁.setTop (mkF m 2 #[.val (.ref a1), .val (.long p2), .second, .val .null] [(.long p2), (.ref a1)])) := fun t k => pre0 t (by
      show Steps p.tables e below (s₁.setTop (mkF m 0 #[.val (.ref a1), .val (.long p2), .second, .val .null] [])) _
      refine XS.aloadN X0.here hx rfl (hb hby d5_0) rfl rfl ?_
      show Steps p.tables e below (s₁.setTop (mkF m 1 #[.val (.ref a1), .val (.long p2), .second, .val .null] [(.ref a1)])) _
      refine XT.lloadN X0.here hx rfl (hb hby d5_1) rfl ?_
      exact k)
  obtain ⟨T2, h2, X2, e2, W2, st2⟩ := putF X0 hx hZ hown (host := "") (Or.inl (hw _ (List.mem_of_getElem? (i := 29) rfl))) Via.refl e0 F2 E1 (Or.inl (hw _ (List.mem_of_getElem? (i := 30) rfl))) (hw _ (List.mem_of_getElem? (i := 1) rfl)) (ty := .long) (by decide) rfl rfl (g := (mkF m 2 #[.val (.ref a1), .val (.long p2), .second, .val .null] [(.long p2), (.ref a1)])) rfl rfl (hb hby d5_2)
  have N2 := Fr.snoc X2 N0 g1
  have pre3 : own_Go p e below (s₁.setTop (entryFrame m #[(.ref a1), (.long p2), .null] 4)) (T2.setTop (mkF m 5 #[.val (.ref a1), .val (.long p2), .second, .val .null] [])) := fun t k => pre1 t (st2 t k)
  have F_4 := F2.same W2
  have F_5 := F3.other W2 (Or.inr (slot_ne (Or.inl (hw _ (List.mem_of_getElem? (i := 42) rfl))) (Or.inl (hw _ (List.mem_of_getElem? (i := 30) rfl))) (by decide) (t := (.object "com/example/tallygate/tallygate/engine/Admission")) (by decide) (t' := .long) (by decide)))
  have Ex_6 := E1.wr W2
  have K_7 := (Keep.refl h0 [a1]).wr W2 (Or.inl (List.mem_of_getElem? (i := 0) rfl))
  have pre8 : own_Go p e below (s₁.setTop (entryFrame m #[(.ref a1), (.long p2), .null] 4)) (T2.setTop (mkF m 7 #[.val (.ref a1), .val (.long p2), .second, .val .null] [.null, (.ref a1)])) := fun t k => pre3 t (by
      show Steps p.tables e below (T2.setTop (mkF m 5 #[.val (.ref a1), .val (.long p2), .second, .val .null] [])) _
      refine XS.aloadN X2.here hx rfl (hb hby d5_5) rfl rfl ?_
      show Steps p.tables e below (T2.setTop (mkF m 6 #[.val (.ref a1), .val (.long p2), .second, .val .null] [(.ref a1)])) _
      refine XS.aloadN X2.here hx rfl (hb hby d5_6) rfl rfl ?_
      exact k)
  obtain ⟨T9, h9, X9, e9, W9, st9⟩ := putF X2 hx hZ hown (host := "") (Or.inl (hw _ (List.mem_of_getElem? (i := 41) rfl))) Via.refl e2 F_5 Ex_6 (Or.inl (hw _ (List.mem_of_getElem? (i := 42) rfl))) (hw _ (List.mem_of_getElem? (i := 1) rfl)) (ty := (.object "com/example/tallygate/tallygate/engine/Admission")) (by decide) rfl rfl (g := (mkF m 7 #[.val (.ref a1), .val (.long p2), .second, .val .null] [.null, (.ref a1)])) rfl rfl (hb hby d5_7)
  have N9 := Fr.snoc X9 N2 g1
  have pre10 : own_Go p e below (s₁.setTop (entryFrame m #[(.ref a1), (.long p2), .null] 4)) (T9.setTop (mkF m 10 #[.val (.ref a1), .val (.long p2), .second, .val .null] [])) := fun t k => pre8 t (st9 t k)
  have F_11 := F_4.other W9 (Or.inr (slot_ne (Or.inl (hw _ (List.mem_of_getElem? (i := 30) rfl))) (Or.inl (hw _ (List.mem_of_getElem? (i := 42) rfl))) (by decide) (t := .long) (by decide) (t' := (.object "com/example/tallygate/tallygate/engine/Admission")) (by decide)))
  have F_12 := F_5.same W9
  have Ex_13 := Ex_6.wr W9
  have K_14 := K_7.wr W9 (Or.inl (List.mem_of_getElem? (i := 0) rfl))
  obtain ⟨fs, hr, hrun, hended, hW, hsame⟩ := X9.leave (v := none) (fun _ => rfl)
  refine ⟨_, _, pre10 _ ?_, hrun, hended, _, _, rfl, ?_, ⟨_, rfl⟩, hW, hsame.mono (by decide) (by decide)⟩
  · show Steps p.tables e below (T9.setTop (mkF m 10 #[.val (.ref a1), .val (.long p2), .second, .val .null] [])) _
    exact X9.returnOut hx Bd.returns (hb hby d5_10) hr
  · show Q5 Z a1 p2 h0 n0 _ T9.heap _
    rw [e9]
    exact ⟨rfl, N9, K_14, F_11, F_12⟩
def Q6 (Z : State) (a1 : Addr) (h0 : Heap) (n0 : Nat) (v : Option Value) (h : Heap) (L : List Loc) : Prop := v = none ∧ Fr n0 L ∧ Keep h0 h [a1] ∧ Fld Z h a1 "com/example/tallygate/tallygate/engine/KeyState" "lockEnd" "J" (.long (-9223372036854775808 : Int64)) ∧ Fld Z h a1 "com/example/tallygate/tallygate/engine/KeyState" "locker" "Lcom/example/tallygate/tallygate/engine/Admission;" .null
theorem d6_0 : decode prog_9_method_14_code 0 = .ok (.aload_n 0, 1) := by decide +kernel
theorem d6_1 : decode prog_9_method_14_code 1 = .ok (.ldc2_w 18, 3) := by decide +kernel
theorem d6_4 : decode prog_9_method_14_code 4 = .ok (.putfield 20, 3) := by decide +kernel
theorem d6_7 : decode prog_9_method_14_code 7 = .ok (.aload_n 0, 1) := by decide +kernel
theorem d6_8 : decode prog_9_method_14_code 8 = .ok (.aconst_null, 1) := by decide +kernel
theorem d6_9 : decode prog_9_method_14_code 9 = .ok (.putfield 45, 3) := by decide +kernel
theorem d6_12 : decode prog_9_method_14_code 12 = .ok (.return_, 1) := by decide +kernel
theorem pn_6 : plainName "com/example/tallygate/tallygate/engine/KeyState" = true := by first | (simp [plainName, overriddenIn]; done) | decide +kernel
theorem ef_6 (m : MethodId) (x0 : Addr) : entryFrame m #[(.ref x0)] 1 = mkF m 0 #[.val (.ref x0)] [] := by first | (simp [entryFrame, mkF, argsToLocals, Value.category]; done) | rfl
set_option maxRecDepth 65536 in
set_option maxHeartbeats 40000000 in
theorem rm6 (l : Launch) (Z : State) (a0 : Array Value) (hw : ∀ d ∈ tables_1, d.before a0 Z = true) (ws : List Jvm.Cond) (a1 : Addr) (u : Int64) (h0 : Heap) (n0 : Nat) (Z0 : n0 ≤ h0.size) (E1 : Exa Z h0 a1 "com/example/tallygate/tallygate/engine/KeyState") (F2 : Fld Z h0 a1 "com/example/tallygate/tallygate/engine/KeyState" "lockEnd" "J" (.long u)) (F3 : Fld Z h0 a1 "com/example/tallygate/tallygate/engine/KeyState" "locker" "Lcom/example/tallygate/tallygate/engine/Admission;" .null) (g1 : n0 ≤ a1) :
    MetFree l (⟨"com/example/tallygate/tallygate/engine/KeyState", "unlock", "()V"⟩ : MethodName) (head1 (Jvm.Cond.code (⟨"com/example/tallygate/tallygate/engine/KeyState", "unlock", "()V"⟩ : MethodName) prog_9_method_14_code 1 none :: ws) ({ frames := 0, cells := 0, slots := 0, locals := 0 } : Room)) (fun a U => a = #[(.ref a1)] ∧ Z.Warmed39 U.vm ∧ U.heap = h0) (fun _ _ _ _ _ => True) (fun _ U o U' => ∃ v L, o = .returned v ∧ Q6 Z a1 h0 n0 v U'.heap L ∧ FrameEnd U o U' L ({ frames := 0, cells := 0, slots := 0, locals := 0 } : Room).cells ({ frames := 0, cells := 0, slots := 0, locals := 0 } : Room).slots) := by
  refine MetFree.of_bodySF (plainFor_of_name pn_6) hisR ?_
  intro p e s m args below meth c s₁ Bd hml0 hP hK
  obtain ⟨rfl, hZ, hh⟩ := hP
  have hx := Bd.exec
  have hby := Bd.bytes
  have hml : c.maxLocals = 1 := hml0
  have hown : s.vm.findClass "com/example/tallygate/tallygate/engine/KeyState" = some m.cls := findClass_of_methodNamed Bd.named
  have hnm := (name_of_methodNamed Bd.named Bd.method).1
  have X0 : Stand p l e ({ frames := 0, cells := 0, slots := 0, locals := 0 } : Room) s m #[(.ref a1)] below meth c s₁ [] 0 0 := Stand.of_body Bd
  have e0 : s₁.heap = h0 := by rw [← hh, Bd.state]; rfl
  have N0 := Fr.nil n0
  have pre0 : own_Go p e below (s₁.setTop (entryFrame m #[(.ref a1)] 1)) (s₁.setTop (mkF m 0 #[.val (.ref a1)] [])) := fun t k => castTop (ef_6 m a1) k
  have pre1 : own_Go p e below (s₁.setTop (entryFrame m #[(.ref a1)] 1)) (s₁.setTop (mkF m 4 #[.val (.ref a1)] [(.long (-9223372036854775808 : Int64)), (.ref a1)])) := fun t k => pre0 t (by
      show Steps p.tables e below (s₁.setTop (mkF m 0 #[.val (.ref a1)] [])) _
      refine XS.aloadN X0.here hx rfl (hb hby d6_0) rfl rfl ?_
      show Steps p.tables e below (s₁.setTop (mkF m 1 #[.val (.ref a1)] [(.ref a1)])) _
      refine X0.ldc2J hx hown (mvT hZ (hw _ (List.mem_of_getElem? (i := 28) rfl))) rfl (hb hby d6_1) ?_
      exact k)
  obtain ⟨T2, h2, X2, e2, W2, st2⟩ := putF X0 hx hZ hown (host := "") (Or.inl (hw _ (List.mem_of_getElem? (i := 29) rfl))) Via.refl e0 F2 E1 (Or.inl (hw _ (List.mem_of_getElem? (i := 30) rfl))) (hw _ (List.mem_of_getElem? (i := 1) rfl)) (ty := .long) (by decide) rfl rfl (g := (mkF m 4 #[.val (.ref a1)] [(.long (-9223372036854775808 : Int64)), (.ref a1)])) rfl rfl (hb hby d6_4)
  have N2 := Fr.snoc X2 N0 g1
  have pre3 : own_Go p e below (s₁.setTop (entryFrame m #[(.ref a1)] 1)) (T2.setTop (mkF m 7 #[.val (.ref a1)] [])) := fun t k => pre1 t (st2 t k)
  have F_4 := F2.same W2
  have F_5 := F3.other W2 (Or.inr (slot_ne (Or.inl (hw _ (List.mem_of_getElem? (i := 42) rfl))) (Or.inl (hw _ (List.mem_of_getElem? (i := 30) rfl))) (by decide) (t := (.object "com/example/tallygate/tallygate/engine/Admission")) (by decide) (t' := .long) (by decide)))
  have Ex_6 := E1.wr W2
  have K_7 := (Keep.refl h0 [a1]).wr W2 (Or.inl (List.mem_of_getElem? (i := 0) rfl))
  have pre8 : own_Go p e below (s₁.setTop (entryFrame m #[(.ref a1)] 1)) (T2.setTop (mkF m 9 #[.val (.ref a1)] [.null, (.ref a1)])) := fun t k => pre3 t (by
      show Steps p.tables e below (T2.setTop (mkF m 7 #[.val (.ref a1)] [])) _
      refine XS.aloadN X2.here hx rfl (hb hby d6_7) rfl rfl ?_
      show Steps p.tables e below (T2.setTop (mkF m 8 #[.val (.ref a1)] [(.ref a1)])) _
      refine XS.aconstNull X2.here hx rfl (hb hby d6_8) ?_
      exact k)
  obtain ⟨T9, h9, X9, e9, W9, st9⟩ := putF X2 hx hZ hown (host := "") (Or.inl (hw _ (List.mem_of_getElem? (i := 41) rfl))) Via.refl e2 F_5 Ex_6 (Or.inl (hw _ (List.mem_of_getElem? (i := 42) rfl))) (hw _ (List.mem_of_getElem? (i := 1) rfl)) (ty := (.object "com/example/tallygate/tallygate/engine/Admission")) (by decide) rfl rfl (g := (mkF m 9 #[.val (.ref a1)] [.null, (.ref a1)])) rfl rfl (hb hby d6_9)
  have N9 := Fr.snoc X9 N2 g1
  have pre10 : own_Go p e below (s₁.setTop (entryFrame m #[(.ref a1)] 1)) (T9.setTop (mkF m 12 #[.val (.ref a1)] [])) := fun t k => pre8 t (st9 t k)
  have F_11 := F_4.other W9 (Or.inr (slot_ne (Or.inl (hw _ (List.mem_of_getElem? (i := 30) rfl))) (Or.inl (hw _ (List.mem_of_getElem? (i := 42) rfl))) (by decide) (t := .long) (by decide) (t' := (.object "com/example/tallygate/tallygate/engine/Admission")) (by decide)))
  have F_12 := F_5.same W9
  have Ex_13 := Ex_6.wr W9
  have K_14 := K_7.wr W9 (Or.inl (List.mem_of_getElem? (i := 0) rfl))
  obtain ⟨fs, hr, hrun, hended, hW, hsame⟩ := X9.leave (v := none) (fun _ => rfl)
  refine ⟨_, _, pre10 _ ?_, hrun, hended, _, _, rfl, ?_, ⟨_, rfl⟩, hW, hsame.mono (by decide) (by decide)⟩
  · show Steps p.tables e below (T9.setTop (mkF m 12 #[.val (.ref a1)] [])) _
    exact X9.returnOut hx Bd.returns (hb hby d6_12) hr
  · show Q6 Z a1 h0 n0 _ T9.heap _
    rw [e9]
    exact ⟨rfl, N9, K_14, F_11, F_12⟩
def Q0 (Z : State) (p1 p2 : Int64) (p3 : Int32) (h0 : Heap) (n0 : Nat) (v : Option Value) (h : Heap) (L : List Loc) : Prop := v = some (.int (1 : Int32)) ∧ Fr n0 L
theorem pn_0 : plainName "com/example/tallygate/tallygate/engine/KeyStateIsLockedPinLaw" = true := by first | (simp [plainName, overriddenIn]; done) | decide +kernel
theorem pd_0_0 : parseMethodDescriptor "()V" = some ⟨[], none⟩ := by decide +kernel
theorem pd_0_1 : parseMethodDescriptor "(J)Z" = some ⟨[.long], some .boolean⟩ := by decide +kernel
theorem pd_0_2 : parseMethodDescriptor "(JLcom/example/tallygate/tallygate/engine/Admission;)V" = some ⟨[.long, (.object "com/example/tallygate/tallygate/engine/Admission")], none⟩ := by decide +kernel
theorem ef_0 (m : MethodId) (x0 : Int64) (x1 : Int64) (x2 : Int32) : entryFrame m #[(.long x0), (.long x1), (.int x2)] maxLocals = mkF m 0 #[.val (.long x0), .second, .val (.long x1), .second, .val (.int x2), .unset, .unset, .unset, .unset, .unset, .unset] [] := by first | (simp [entryFrame, mkF, argsToLocals, Value.category, maxLocals]; done) | rfl
set_option maxRecDepth 65536 in
set_option maxHeartbeats 40000000 in
theorem rm0 (l : Launch) (Z : State) (a0 : Array Value) (hw : ∀ d ∈ tables_1, d.before a0 Z = true) (ws : List Jvm.Cond) (p1 p2 : Int64) (p3 : Int32) (h0 : Heap) (n0 : Nat) (Z0 : n0 ≤ h0.size)  :
    MetFree l x (head1 (Jvm.Cond.code x code maxLocals ret :: ws) room_1) (fun a U => a = #[(.long p1), (.long p2), (.int p3)] ∧ Z.Warmed39 U.vm ∧ U.heap = h0) (fun _ _ _ _ _ => True) (fun _ U o U' => ∃ v L, o = .returned v ∧ Q0 Z p1 p2 p3 h0 n0 v U'.heap L ∧ FrameEnd U o U' L room_1.cells room_1.slots) := by
  refine MetFree.of_bodySF (plainFor_of_name pn_0) hisR ?_
  intro p e s m args below meth c s₁ Bd hml0 hP hK
  obtain ⟨rfl, hZ, hh⟩ := hP
  have hx := Bd.exec
  have hby := Bd.bytes
  have hml : c.maxLocals = 11 := hml0
  have hown : s.vm.findClass "com/example/tallygate/tallygate/engine/KeyStateIsLockedPinLaw" = some m.cls := findClass_of_methodNamed Bd.named
  have hnm := (name_of_methodNamed Bd.named Bd.method).1
  have X0 : Stand p l e room_1 s m #[(.long p1), (.long p2), (.int p3)] below meth c s₁ [] 0 0 := Stand.of_body Bd
  have e0 : s₁.heap = h0 := by rw [← hh, Bd.state]; rfl
  have N0 := Fr.nil n0
  have pre0 : own_Go p e below (s₁.setTop (entryFrame m #[(.long p1), (.long p2), (.int p3)] maxLocals)) (s₁.setTop (mkF m 0 #[.val (.long p1), .second, .val (.long p2), .second, .val (.int p3), .unset, .unset, .unset, .unset, .unset, .unset] [])) := fun t k => castTop (ef_0 m p1 p2 p3) k
  obtain ⟨T1, h1, X1, e1, E1, A1, D1, -, st1⟩ := newO X0 hx hZ hown (hw _ (List.mem_of_getElem? (i := 0) rfl)) (hw _ (List.mem_of_getElem? (i := 1) rfl)) (hw _ (List.mem_of_getElem? (i := 2) rfl)) e0 (g := (mkF m 0 #[.val (.long p1), .second, .val (.long p2), .second, .val (.int p3), .unset, .unset, .unset, .unset, .unset, .unset] [])) rfl (hb hby at_0) (by decide) (by decide)
  obtain ⟨b1, g1⟩ : ∃ z, z = h0.size := ⟨_, rfl⟩
  rw [← g1] at A1 D1 st1
  have pre2 : own_Go p e below (s₁.setTop (entryFrame m #[(.long p1), (.long p2), (.int p3)] maxLocals)) (T1.setTop (mkF m 3 #[.val (.long p1), .second, .val (.long p2), .second, .val (.int p3), .unset, .unset, .unset, .unset, .unset, .unset] [(.ref b1)])) := fun t k => pre0 t (st1 t k)
  have K_3 := (Keep.refl h0 []).ext E1
  have sz_b1 : h0.size ≤ b1 := Nat.le_trans (Keep.refl h0 []).1 (Nat.le_of_eq g1.symm)
  have g_b1 : n0 ≤ b1 := Nat.le_trans Z0 sz_b1
  have F_failures_1 : Fld Z h1 b1 "com/example/tallygate/tallygate/engine/KeyState" "failures" "Ljava/util/ArrayDeque;" .null := D1 (Or.inr (hw _ (List.mem_of_getElem? (i := 27) rfl))) (ty := (.object "java/util/ArrayDeque")) (by decide)
  have F_lockEnd_1 : Fld Z h1 b1 "com/example/tallygate/tallygate/engine/KeyState" "lockEnd" "J" (.long (0 : Int64)) := D1 (Or.inl (hw _ (List.mem_of_getElem? (i := 30) rfl))) (ty := .long) (by decide)
  have F_locker_1 : Fld Z h1 b1 "com/example/tallygate/tallygate/engine/KeyState" "locker" "Lcom/example/tallygate/tallygate/engine/Admission;" .null := D1 (Or.inl (hw _ (List.mem_of_getElem? (i := 42) rfl))) (ty := (.object "com/example/tallygate/tallygate/engine/Admission")) (by decide)
  have Zh1 : n0 ≤ h1.size := Nat.le_trans Z0 K_3.1
  have pre4 : own_Go p e below (s₁.setTop (entryFrame m #[(.long p1), (.long p2), (.int p3)] maxLocals)) (T1.setTop (mkF m 4 #[.val (.long p1), .second, .val (.long p2), .second, .val (.int p3), .unset, .unset, .unset, .unset, .unset, .unset] [(.ref b1), (.ref b1)])) := fun t k => pre2 t (by
      show Steps p.tables e below (T1.setTop (mkF m 3 #[.val (.long p1), .second, .val (.long p2), .second, .val (.int p3), .unset, .unset, .unset, .unset, .unset, .unset] [(.ref b1)])) _
      refine XS.dup X1.here hx rfl (hb hby at_3) rfl rfl ?_
      exact k)
  obtain ⟨_, _, ⟨T5, L5, k5, n5⟩, -, X5, ⟨Lc5, hQ5, l5, y5, z5⟩, st5⟩ := X1.specialBack hx (y := (⟨"com/example/tallygate/tallygate/engine/KeyState", "<init>", "()V"⟩ : MethodName)) rfl hown (mvT hZ (hw _ (List.mem_of_getElem? (i := 3) rfl))) (mvT hZ (hw _ (List.mem_of_getElem? (i := 4) rfl))) (mvT hZ (hw _ (List.mem_of_getElem? (i := 5) rfl))) (by decide) (backOf (W := 1) (rm3 l Z a0 hw [] b1 h1 n0 Zh1 A1 F_failures_1 F_lockEnd_1 F_locker_1 g_b1) hZ (hw _ (List.mem_of_getElem? (i := 5) rfl)) (hw _ (List.mem_of_getElem? (i := 2) rfl)) (by decide) (by decide)) (g := (mkF m 4 #[.val (.long p1), .second, .val (.long p2), .second, .val (.int p3), .unset, .unset, .unset, .unset, .unset, .unset] [(.ref b1), (.ref b1)])) rfl (by rw [hml]; rfl) (Steps.refl _) (a := b1) (argsL := []) (rest := [(.ref b1)]) (lenOf pd_0_0 rfl) rfl (by show 2 * 0 + _ ≤ _; exact Nat.le_of_eq rfl) (hb hby at_4) (fun _ _ => ⟨rfl, e1, (by decide : 1 + 2 ≤ _), (by decide : 3 + 20 ≤ _)⟩)
  dsimp only [Pt.U, Pt.locs, Pt.cells, Pt.slots] at X5 l5 y5 z5 st5 hQ5
  subst l5 y5 z5
  obtain ⟨rfl, N5q, K5, Ex5, Fe5, Fl5⟩ := hQ5
  have N5 := Fr.app N0 N5q
  have pre6 : own_Go p e below (s₁.setTop (entryFrame m #[(.long p1), (.long p2), (.int p3)] maxLocals)) (T5.setTop (mkF m 7 #[.val (.long p1), .second, .val (.long p2), .second, .val (.int p3), .unset, .unset, .unset, .unset, .unset, .unset] [(.ref b1)])) := fun t k => pre4 t (st5.trans k)
  have Ex_7 := A1.keep K5
  have K_8 := K_3.trans K5 (allS (Or.inr sz_b1) all0)
  have Zh2 : n0 ≤ T5.heap.size := Nat.le_trans Z0 K_8.1
  have pre9 : own_Go p e below (s₁.setTop (entryFrame m #[(.long p1), (.long p2), (.int p3)] maxLocals)) (T5.setTop (mkF m 12 #[.val (.long p1), .second, .val (.long p2), .second, .val (.int p3), .val (.ref b1), .unset, .unset, .unset, .unset, .unset] [(.long p2), (.ref b1)])) := fun t k => pre6 t (by
      show Steps p.tables e below (T5.setTop (mkF m 7 #[.val (.long p1), .second, .val (.long p2), .second, .val (.int p3), .unset, .unset, .unset, .unset, .unset, .unset] [(.ref b1)])) _
      refine XS.astore X5.here hx rfl (hb hby at_7) rfl rfl (l' := #[.val (.long p1), .second, .val (.long p2), .second, .val (.int p3), .val (.ref b1), .unset, .unset, .unset, .unset, .unset]) rfl ?_
      show Steps p.tables e below (T5.setTop (mkF m 9 #[.val (.long p1), .second, .val (.long p2), .second, .val (.int p3), .val (.ref b1), .unset, .unset, .unset, .unset, .unset] [])) _
      refine XS.aload X5.here hx rfl (hb hby at_9) rfl rfl ?_
      show Steps p.tables e below (T5.setTop (mkF m 11 #[.val (.long p1), .second, .val (.long p2), .second, .val (.int p3), .val (.ref b1), .unset, .unset, .unset, .unset, .unset] [(.ref b1)])) _
      refine XT.lloadN X5.here hx rfl (hb hby at_11) rfl ?_
      exact k)
  obtain ⟨cq10, kq10, q10a, q10b, q10c⟩ := isOf hZ rfl Ex_7
  obtain ⟨_, _, ⟨T10, L10, k10, n10⟩, -, X10, ⟨Lc10, hQ10, l10, y10, z10⟩, st10⟩ := X5.virtualBack hx (y := (⟨"com/example/tallygate/tallygate/engine/KeyState", "isLocked", "(J)Z"⟩ : MethodName)) (z := (⟨"com/example/tallygate/tallygate/engine/KeyState", "isLocked", "(J)Z"⟩ : MethodName)) hown (mvT hZ (hw _ (List.mem_of_getElem? (i := 31) rfl))) (mvT hZ (hw _ (List.mem_of_getElem? (i := 32) rfl))) (notFace_of_selects (args := #[]) (mvT hZ (hw _ (List.mem_of_getElem? (i := 34) rfl)))) (mvT hZ (hw _ (List.mem_of_getElem? (i := 34) rfl))) (mvT hZ (hw _ (List.mem_of_getElem? (i := 33) rfl))) (by decide) (backOf (W := 0) (rm4 l Z a0 hw [] b1 p2 (-9223372036854775808 : Int64) T5.heap n0 Zh2 Fe5) hZ (hw _ (List.mem_of_getElem? (i := 35) rfl)) (hw _ (List.mem_of_getElem? (i := 2) rfl)) (by decide) (by decide)) q10a q10c (g := (mkF m 12 #[.val (.long p1), .second, .val (.long p2), .second, .val (.int p3), .val (.ref b1), .unset, .unset, .unset, .unset, .unset] [(.long p2), (.ref b1)])) rfl (by rw [hml]; rfl) (Steps.refl _) (argsL := [(.long p2)]) (rest := []) (lenOf pd_0_1 rfl) rfl (by show 2 * 0 + _ ≤ _; exact Nat.le_of_eq rfl) (hb hby at_12) (fun _ _ => ⟨rfl, rfl, (by decide : 3 + 0 ≤ _), (by decide : 23 + 0 ≤ _)⟩)
  dsimp only [Pt.U, Pt.locs, Pt.cells, Pt.slots] at X10 l10 y10 z10 st10 hQ10
  subst l10 y10 z10
  obtain ⟨rfl, N10q, hh10⟩ := hQ10
  have N10 := Fr.app N5 N10q
  have pre11 : own_Go p e below (s₁.setTop (entryFrame m #[(.long p1), (.long p2), (.int p3)] maxLocals)) (T10.setTop (mkF m 15 #[.val (.long p1), .second, .val (.long p2), .second, .val (.int p3), .val (.ref b1), .unset, .unset, .unset, .unset, .unset] [(.int (own_lk (-9223372036854775808 : Int64) p2))])) := fun t k => pre9 t (st10.trans k)
  have F_12 := Fe5
  rw [← hh10] at F_12
  have F_13 := Fl5
  rw [← hh10] at F_13
  have Ex_14 := Ex_7
  rw [← hh10] at Ex_14
  have K_15 := K_8
  rw [← hh10] at K_15
  have Zh3 : n0 ≤ T10.heap.size := Nat.le_trans Z0 K_15.1
  have pre16 : own_Go p e below (s₁.setTop (entryFrame m #[(.long p1), (.long p2), (.int p3)] maxLocals)) (T10.setTop (mkF m 29 #[.val (.long p1), .second, .val (.long p2), .second, .val (.int p3), .val (.ref b1), .val (.int (1 : Int32)), .unset, .unset, .unset, .unset] [.null, (.long p1), (.ref b1)])) := fun t k => pre11 t (by
      show Steps p.tables e below (T10.setTop (mkF m 15 #[.val (.long p1), .second, .val (.long p2), .second, .val (.int p3), .val (.ref b1), .unset, .unset, .unset, .unset, .unset] [(.int (own_lk (-9223372036854775808 : Int64) p2))])) _
      refine XS.ifNo X10.here hx rfl (hb hby at_15) rfl (XT.i0_ne_f (own_lkmin p2)) ?_
      show Steps p.tables e below (T10.setTop (mkF m 18 #[.val (.long p1), .second, .val (.long p2), .second, .val (.int p3), .val (.ref b1), .unset, .unset, .unset, .unset, .unset] [])) _
      refine XS.iconst X10.here hx rfl (hb hby at_18) ?_
      show Steps p.tables e below (T10.setTop (mkF m 19 #[.val (.long p1), .second, .val (.long p2), .second, .val (.int p3), .val (.ref b1), .unset, .unset, .unset, .unset, .unset] [(.int (1 : Int32))])) _
      refine XS.goto X10.here hx rfl (pc0 := 19) (pc' := 23) rfl (hb hby at_19) (by decide) (by decide) ?_
      show Steps p.tables e below (T10.setTop (mkF m 23 #[.val (.long p1), .second, .val (.long p2), .second, .val (.int p3), .val (.ref b1), .unset, .unset, .unset, .unset, .unset] [(.int (1 : Int32))])) _
      refine XS.istore X10.here hx rfl (hb hby at_23) rfl (l' := #[.val (.long p1), .second, .val (.long p2), .second, .val (.int p3), .val (.ref b1), .val (.int (1 : Int32)), .unset, .unset, .unset, .unset]) rfl ?_
      show Steps p.tables e below (T10.setTop (mkF m 25 #[.val (.long p1), .second, .val (.long p2), .second, .val (.int p3), .val (.ref b1), .val (.int (1 : Int32)), .unset, .unset, .unset, .unset] [])) _
      refine XS.aload X10.here hx rfl (hb hby at_25) rfl rfl ?_
      show Steps p.tables e below (T10.setTop (mkF m 27 #[.val (.long p1), .second, .val (.long p2), .second, .val (.int p3), .val (.ref b1), .val (.int (1 : Int32)), .unset, .unset, .unset, .unset] [(.ref b1)])) _
      refine XT.lloadN X10.here hx rfl (hb hby at_27) rfl ?_
      show Steps p.tables e below (T10.setTop (mkF m 28 #[.val (.long p1), .second, .val (.long p2), .second, .val (.int p3), .val (.ref b1), .val (.int (1 : Int32)), .unset, .unset, .unset, .unset] [(.long p1), (.ref b1)])) _
      refine XS.aconstNull X10.here hx rfl (hb hby at_28) ?_
      exact k)
  obtain ⟨cq17, kq17, q17a, q17b, q17c⟩ := isOf hZ rfl Ex_14
  obtain ⟨_, _, ⟨T17, L17, k17, n17⟩, -, X17, ⟨Lc17, hQ17, l17, y17, z17⟩, st17⟩ := X10.virtualBack hx (y := (⟨"com/example/tallygate/tallygate/engine/KeyState", "lock", "(JLcom/example/tallygate/tallygate/engine/Admission;)V"⟩ : MethodName)) (z := (⟨"com/example/tallygate/tallygate/engine/KeyState", "lock", "(JLcom/example/tallygate/tallygate/engine/Admission;)V"⟩ : MethodName)) hown (mvT hZ (hw _ (List.mem_of_getElem? (i := 36) rfl))) (mvT hZ (hw _ (List.mem_of_getElem? (i := 37) rfl))) (notFace_of_selects (args := #[]) (mvT hZ (hw _ (List.mem_of_getElem? (i := 39) rfl)))) (mvT hZ (hw _ (List.mem_of_getElem? (i := 39) rfl))) (mvT hZ (hw _ (List.mem_of_getElem? (i := 38) rfl))) (by decide) (backOf (W := 0) (rm5 l Z a0 hw [] b1 p1 _ T10.heap n0 Zh3 Ex_14 F_12 F_13 g_b1) hZ (hw _ (List.mem_of_getElem? (i := 40) rfl)) (hw _ (List.mem_of_getElem? (i := 2) rfl)) (by decide) (by decide)) q17a q17c (g := (mkF m 29 #[.val (.long p1), .second, .val (.long p2), .second, .val (.int p3), .val (.ref b1), .val (.int (1 : Int32)), .unset, .unset, .unset, .unset] [.null, (.long p1), (.ref b1)])) rfl (by rw [hml]; rfl) (Steps.refl _) (argsL := [(.long p1), .null]) (rest := []) (lenOf pd_0_2 rfl) rfl (by show 2 * 0 + _ ≤ _; exact Nat.le_of_eq rfl) (hb hby at_29) (fun _ _ => ⟨rfl, rfl, (by decide : 3 + 0 ≤ _), (by decide : 23 + 0 ≤ _)⟩)
  dsimp only [Pt.U, Pt.locs, Pt.cells, Pt.slots] at X17 l17 y17 z17 st17 hQ17
  subst l17 y17 z17
  obtain ⟨rfl, N17q, K17, Fe17, Fl17⟩ := hQ17
  have N17 := Fr.app N10 N17q
  have pre18 : own_Go p e below (s₁.setTop (entryFrame m #[(.long p1), (.long p2), (.int p3)] maxLocals)) (T17.setTop (mkF m 32 #[.val (.long p1), .second, .val (.long p2), .second, .val (.int p3), .val (.ref b1), .val (.int (1 : Int32)), .unset, .unset, .unset, .unset] [])) := fun t k => pre16 t (st17.trans k)
  have Ex_19 := Ex_14.keep K17
  have K_20 := K_15.trans K17 (allS (Or.inr sz_b1) all0)
  have Zh4 : n0 ≤ T17.heap.size := Nat.le_trans Z0 K_20.1
  have pre21 : own_Go p e below (s₁.setTop (entryFrame m #[(.long p1), (.long p2), (.int p3)] maxLocals)) (T17.setTop (mkF m 35 #[.val (.long p1), .second, .val (.long p2), .second, .val (.int p3), .val (.ref b1), .val (.int (1 : Int32)), .unset, .unset, .unset, .unset] [(.long p2), (.ref b1)])) := fun t k => pre18 t (by
      show Steps p.tables e below (T17.setTop (mkF m 32 #[.val (.long p1), .second, .val (.long p2), .second, .val (.int p3), .val (.ref b1), .val (.int (1 : Int32)), .unset, .unset, .unset, .unset] [])) _
      refine XS.aload X17.here hx rfl (hb hby at_32) rfl rfl ?_
      show Steps p.tables e below (T17.setTop (mkF m 34 #[.val (.long p1), .second, .val (.long p2), .second, .val (.int p3), .val (.ref b1), .val (.int (1 : Int32)), .unset, .unset, .unset, .unset] [(.ref b1)])) _
      refine XT.lloadN X17.here hx rfl (hb hby at_34) rfl ?_
      exact k)
  obtain ⟨cq22, kq22, q22a, q22b, q22c⟩ := isOf hZ rfl Ex_19
  obtain ⟨_, _, ⟨T22, L22, k22, n22⟩, -, X22, ⟨Lc22, hQ22, l22, y22, z22⟩, st22⟩ := X17.virtualBack hx (y := (⟨"com/example/tallygate/tallygate/engine/KeyState", "isLocked", "(J)Z"⟩ : MethodName)) (z := (⟨"com/example/tallygate/tallygate/engine/KeyState", "isLocked", "(J)Z"⟩ : MethodName)) hown (mvT hZ (hw _ (List.mem_of_getElem? (i := 31) rfl))) (mvT hZ (hw _ (List.mem_of_getElem? (i := 32) rfl))) (notFace_of_selects (args := #[]) (mvT hZ (hw _ (List.mem_of_getElem? (i := 34) rfl)))) (mvT hZ (hw _ (List.mem_of_getElem? (i := 34) rfl))) (mvT hZ (hw _ (List.mem_of_getElem? (i := 33) rfl))) (by decide) (backOf (W := 0) (rm4 l Z a0 hw [] b1 p2 p1 T17.heap n0 Zh4 Fe17) hZ (hw _ (List.mem_of_getElem? (i := 35) rfl)) (hw _ (List.mem_of_getElem? (i := 2) rfl)) (by decide) (by decide)) q22a q22c (g := (mkF m 35 #[.val (.long p1), .second, .val (.long p2), .second, .val (.int p3), .val (.ref b1), .val (.int (1 : Int32)), .unset, .unset, .unset, .unset] [(.long p2), (.ref b1)])) rfl (by rw [hml]; rfl) (Steps.refl _) (argsL := [(.long p2)]) (rest := []) (lenOf pd_0_1 rfl) rfl (by show 2 * 0 + _ ≤ _; exact Nat.le_of_eq rfl) (hb hby at_35) (fun _ _ => ⟨rfl, rfl, (by decide : 3 + 0 ≤ _), (by decide : 23 + 0 ≤ _)⟩)
  dsimp only [Pt.U, Pt.locs, Pt.cells, Pt.slots] at X22 l22 y22 z22 st22 hQ22
  subst l22 y22 z22
  obtain ⟨rfl, N22q, hh22⟩ := hQ22
  have N22 := Fr.app N17 N22q
  have pre23 : own_Go p e below (s₁.setTop (entryFrame m #[(.long p1), (.long p2), (.int p3)] maxLocals)) (T22.setTop (mkF m 38 #[.val (.long p1), .second, .val (.long p2), .second, .val (.int p3), .val (.ref b1), .val (.int (1 : Int32)), .unset, .unset, .unset, .unset] [(.int (own_lk p1 p2))])) := fun t k => pre21 t (st22.trans k)
  have F_24 := Fe17
  rw [← hh22] at F_24
  have F_25 := Fl17
  rw [← hh22] at F_25
  have Ex_26 := Ex_19
  rw [← hh22] at Ex_26
  have K_27 := K_20
  rw [← hh22] at K_27
  have pre28 : own_Go p e below (s₁.setTop (entryFrame m #[(.long p1), (.long p2), (.int p3)] maxLocals)) (T22.setTop (mkF m 41 #[.val (.long p1), .second, .val (.long p2), .second, .val (.int p3), .val (.ref b1), .val (.int (1 : Int32)), .unset, .unset, .unset, .unset] [(.int (XT.cmpL p2 p1)), (.int (own_lk p1 p2))])) := fun t k => pre23 t (by
      show Steps p.tables e below (T22.setTop (mkF m 38 #[.val (.long p1), .second, .val (.long p2), .second, .val (.int p3), .val (.ref b1), .val (.int (1 : Int32)), .unset, .unset, .unset, .unset] [(.int (own_lk p1 p2))])) _
      refine XT.lloadN X22.here hx rfl (hb hby at_38) rfl ?_
      show Steps p.tables e below (T22.setTop (mkF m 39 #[.val (.long p1), .second, .val (.long p2), .second, .val (.int p3), .val (.ref b1), .val (.int (1 : Int32)), .unset, .unset, .unset, .unset] [(.long p2), (.int (own_lk p1 p2))])) _
      refine XT.lloadN X22.here hx rfl (hb hby at_39) rfl ?_
      show Steps p.tables e below (T22.setTop (mkF m 40 #[.val (.long p1), .second, .val (.long p2), .second, .val (.int p3), .val (.ref b1), .val (.int (1 : Int32)), .unset, .unset, .unset, .unset] [(.long p1), (.long p2), (.int (own_lk p1 p2))])) _
      refine XT.lcmp X22.here hx rfl (hb hby at_40) rfl ?_
      exact k)
  obtain ⟨x7, hx7, pre29⟩ : ∃ x7 : Int32, x7 = 1 ∧ own_Go p e below (s₁.setTop (entryFrame m #[(.long p1), (.long p2), (.int p3)] maxLocals)) (T22.setTop (mkF m 59 #[.val (.long p1), .second, .val (.long p2), .second, .val (.int p3), .val (.ref b1), .val (.int (1 : Int32)), .val (.int x7), .unset, .unset, .unset] [])) := by
    by_cases c41_30 : p2 < p1
    · skip
      by_cases c49_31 : (own_lk p1 p2) = (1 : Int32)
      · skip
        refine ⟨_, rfl, fun t k => pre28 t ?_⟩
        show Steps p.tables e below (T22.setTop (mkF m 41 #[.val (.long p1), .second, .val (.long p2), .second, .val (.int p3), .val (.ref b1), .val (.int (1 : Int32)), .unset, .unset, .unset, .unset] [(.int (XT.cmpL p2 p1)), (.int (own_lk p1 p2))])) _
        refine XS.ifNo X22.here hx rfl (hb hby at_41) rfl (XT.ll_ge_f c41_30) ?_
        show Steps p.tables e below (T22.setTop (mkF m 44 #[.val (.long p1), .second, .val (.long p2), .second, .val (.int p3), .val (.ref b1), .val (.int (1 : Int32)), .unset, .unset, .unset, .unset] [(.int (own_lk p1 p2))])) _
        refine XS.iconst X22.here hx rfl (hb hby at_44) ?_
        show Steps p.tables e below (T22.setTop (mkF m 45 #[.val (.long p1), .second, .val (.long p2), .second, .val (.int p3), .val (.ref b1), .val (.int (1 : Int32)), .unset, .unset, .unset, .unset] [(.int (1 : Int32)), (.int (own_lk p1 p2))])) _
        refine XS.goto X22.here hx rfl (pc0 := 45) (pc' := 49) rfl (hb hby at_45) (by decide) (by decide) ?_
        show Steps p.tables e below (T22.setTop (mkF m 49 #[.val (.long p1), .second, .val (.long p2), .second, .val (.int p3), .val (.ref b1), .val (.int (1 : Int32)), .unset, .unset, .unset, .unset] [(.int (1 : Int32)), (.int (own_lk p1 p2))])) _
        refine XS.icmpNo X22.here hx rfl (hb hby at_49) rfl (XT.ii_ne_f c49_31) ?_
        show Steps p.tables e below (T22.setTop (mkF m 52 #[.val (.long p1), .second, .val (.long p2), .second, .val (.int p3), .val (.ref b1), .val (.int (1 : Int32)), .unset, .unset, .unset, .unset] [])) _
        refine XS.iconst X22.here hx rfl (hb hby at_52) ?_
        show Steps p.tables e below (T22.setTop (mkF m 53 #[.val (.long p1), .second, .val (.long p2), .second, .val (.int p3), .val (.ref b1), .val (.int (1 : Int32)), .unset, .unset, .unset, .unset] [(.int (1 : Int32))])) _
        refine XS.goto X22.here hx rfl (pc0 := 53) (pc' := 57) rfl (hb hby at_53) (by decide) (by decide) ?_
        show Steps p.tables e below (T22.setTop (mkF m 57 #[.val (.long p1), .second, .val (.long p2), .second, .val (.int p3), .val (.ref b1), .val (.int (1 : Int32)), .unset, .unset, .unset, .unset] [(.int (1 : Int32))])) _
        refine XS.istore X22.here hx rfl (hb hby at_57) rfl (l' := #[.val (.long p1), .second, .val (.long p2), .second, .val (.int p3), .val (.ref b1), .val (.int (1 : Int32)), .val (.int (1 : Int32)), .unset, .unset, .unset]) rfl ?_
        exact k
      · skip
        exact absurd (own_lkt c41_30) c49_31
    · skip
      by_cases c49_32 : (own_lk p1 p2) = (0 : Int32)
      · skip
        refine ⟨_, rfl, fun t k => pre28 t ?_⟩
        show Steps p.tables e below (T22.setTop (mkF m 41 #[.val (.long p1), .second, .val (.long p2), .second, .val (.int p3), .val (.ref b1), .val (.int (1 : Int32)), .unset, .unset, .unset, .unset] [(.int (XT.cmpL p2 p1)), (.int (own_lk p1 p2))])) _
        refine XS.ifYes X22.here hx rfl (pc0 := 41) (pc' := 48) rfl (hb hby at_41) rfl (XT.ll_ge_t c41_30) (by decide) (by decide) ?_
        show Steps p.tables e below (T22.setTop (mkF m 48 #[.val (.long p1), .second, .val (.long p2), .second, .val (.int p3), .val (.ref b1), .val (.int (1 : Int32)), .unset, .unset, .unset, .unset] [(.int (own_lk p1 p2))])) _
        refine XS.iconst X22.here hx rfl (hb hby at_48) ?_
        show Steps p.tables e below (T22.setTop (mkF m 49 #[.val (.long p1), .second, .val (.long p2), .second, .val (.int p3), .val (.ref b1), .val (.int (1 : Int32)), .unset, .unset, .unset, .unset] [(.int (0 : Int32)), (.int (own_lk p1 p2))])) _
        refine XS.icmpNo X22.here hx rfl (hb hby at_49) rfl (XT.ii_ne_f c49_32) ?_
        show Steps p.tables e below (T22.setTop (mkF m 52 #[.val (.long p1), .second, .val (.long p2), .second, .val (.int p3), .val (.ref b1), .val (.int (1 : Int32)), .unset, .unset, .unset, .unset] [])) _
        refine XS.iconst X22.here hx rfl (hb hby at_52) ?_
        show Steps p.tables e below (T22.setTop (mkF m 53 #[.val (.long p1), .second, .val (.long p2), .second, .val (.int p3), .val (.ref b1), .val (.int (1 : Int32)), .unset, .unset, .unset, .unset] [(.int (1 : Int32))])) _
        refine XS.goto X22.here hx rfl (pc0 := 53) (pc' := 57) rfl (hb hby at_53) (by decide) (by decide) ?_
        show Steps p.tables e below (T22.setTop (mkF m 57 #[.val (.long p1), .second, .val (.long p2), .second, .val (.int p3), .val (.ref b1), .val (.int (1 : Int32)), .unset, .unset, .unset, .unset] [(.int (1 : Int32))])) _
        refine XS.istore X22.here hx rfl (hb hby at_57) rfl (l' := #[.val (.long p1), .second, .val (.long p2), .second, .val (.int p3), .val (.ref b1), .val (.int (1 : Int32)), .val (.int (1 : Int32)), .unset, .unset, .unset]) rfl ?_
        exact k
      · skip
        exact absurd (own_lkf c41_30) c49_32
  subst hx7
  have Zh5 : n0 ≤ T22.heap.size := Nat.le_trans Z0 K_27.1
  have pre33 : own_Go p e below (s₁.setTop (entryFrame m #[(.long p1), (.long p2), (.int p3)] maxLocals)) (T22.setTop (mkF m 62 #[.val (.long p1), .second, .val (.long p2), .second, .val (.int p3), .val (.ref b1), .val (.int (1 : Int32)), .val (.int (1 : Int32)), .unset, .unset, .unset] [(.long p1), (.ref b1)])) := fun t k => pre29 t (by
      show Steps p.tables e below (T22.setTop (mkF m 59 #[.val (.long p1), .second, .val (.long p2), .second, .val (.int p3), .val (.ref b1), .val (.int (1 : Int32)), .val (.int (1 : Int32)), .unset, .unset, .unset] [])) _
      refine XS.aload X22.here hx rfl (hb hby at_59) rfl rfl ?_
      show Steps p.tables e below (T22.setTop (mkF m 61 #[.val (.long p1), .second, .val (.long p2), .second, .val (.int p3), .val (.ref b1), .val (.int (1 : Int32)), .val (.int (1 : Int32)), .unset, .unset, .unset] [(.ref b1)])) _
      refine XT.lloadN X22.here hx rfl (hb hby at_61) rfl ?_
      exact k)
  obtain ⟨cq34, kq34, q34a, q34b, q34c⟩ := isOf hZ rfl Ex_26
  obtain ⟨_, _, ⟨T34, L34, k34, n34⟩, -, X34, ⟨Lc34, hQ34, l34, y34, z34⟩, st34⟩ := X22.virtualBack hx (y := (⟨"com/example/tallygate/tallygate/engine/KeyState", "isLocked", "(J)Z"⟩ : MethodName)) (z := (⟨"com/example/tallygate/tallygate/engine/KeyState", "isLocked", "(J)Z"⟩ : MethodName)) hown (mvT hZ (hw _ (List.mem_of_getElem? (i := 31) rfl))) (mvT hZ (hw _ (List.mem_of_getElem? (i := 32) rfl))) (notFace_of_selects (args := #[]) (mvT hZ (hw _ (List.mem_of_getElem? (i := 34) rfl)))) (mvT hZ (hw _ (List.mem_of_getElem? (i := 34) rfl))) (mvT hZ (hw _ (List.mem_of_getElem? (i := 33) rfl))) (by decide) (backOf (W := 0) (rm4 l Z a0 hw [] b1 p1 p1 T22.heap n0 Zh5 F_24) hZ (hw _ (List.mem_of_getElem? (i := 35) rfl)) (hw _ (List.mem_of_getElem? (i := 2) rfl)) (by decide) (by decide)) q34a q34c (g := (mkF m 62 #[.val (.long p1), .second, .val (.long p2), .second, .val (.int p3), .val (.ref b1), .val (.int (1 : Int32)), .val (.int (1 : Int32)), .unset, .unset, .unset] [(.long p1), (.ref b1)])) rfl (by rw [hml]; rfl) (Steps.refl _) (argsL := [(.long p1)]) (rest := []) (lenOf pd_0_1 rfl) rfl (by show 2 * 0 + _ ≤ _; exact Nat.le_of_eq rfl) (hb hby at_62) (fun _ _ => ⟨rfl, rfl, (by decide : 3 + 0 ≤ _), (by decide : 23 + 0 ≤ _)⟩)
  dsimp only [Pt.U, Pt.locs, Pt.cells, Pt.slots] at X34 l34 y34 z34 st34 hQ34
  subst l34 y34 z34
  obtain ⟨rfl, N34q, hh34⟩ := hQ34
  have N34 := Fr.app N22 N34q
  have pre35 : own_Go p e below (s₁.setTop (entryFrame m #[(.long p1), (.long p2), (.int p3)] maxLocals)) (T34.setTop (mkF m 65 #[.val (.long p1), .second, .val (.long p2), .second, .val (.int p3), .val (.ref b1), .val (.int (1 : Int32)), .val (.int (1 : Int32)), .unset, .unset, .unset] [(.int (own_lk p1 p1))])) := fun t k => pre33 t (st34.trans k)
  have F_36 := F_24
  rw [← hh34] at F_36
  have F_37 := F_25
  rw [← hh34] at F_37
  have Ex_38 := Ex_26
  rw [← hh34] at Ex_38
  have K_39 := K_27
  rw [← hh34] at K_39
  have pre40 : own_Go p e below (s₁.setTop (entryFrame m #[(.long p1), (.long p2), (.int p3)] maxLocals)) (T34.setTop (mkF m 80 #[.val (.long p1), .second, .val (.long p2), .second, .val (.int p3), .val (.ref b1), .val (.int (1 : Int32)), .val (.int (1 : Int32)), .val (.int (1 : Int32)), .unset, .unset] [(.int (XT.cmpL p1 (-9223372036854775808 : Int64)))])) := fun t k => pre35 t (by
      show Steps p.tables e below (T34.setTop (mkF m 65 #[.val (.long p1), .second, .val (.long p2), .second, .val (.int p3), .val (.ref b1), .val (.int (1 : Int32)), .val (.int (1 : Int32)), .unset, .unset, .unset] [(.int (own_lk p1 p1))])) _
      refine XS.ifNo X34.here hx rfl (hb hby at_65) rfl (XT.i0_ne_f (own_lkself p1)) ?_
      show Steps p.tables e below (T34.setTop (mkF m 68 #[.val (.long p1), .second, .val (.long p2), .second, .val (.int p3), .val (.ref b1), .val (.int (1 : Int32)), .val (.int (1 : Int32)), .unset, .unset, .unset] [])) _
      refine XS.iconst X34.here hx rfl (hb hby at_68) ?_
      show Steps p.tables e below (T34.setTop (mkF m 69 #[.val (.long p1), .second, .val (.long p2), .second, .val (.int p3), .val (.ref b1), .val (.int (1 : Int32)), .val (.int (1 : Int32)), .unset, .unset, .unset] [(.int (1 : Int32))])) _
      refine XS.goto X34.here hx rfl (pc0 := 69) (pc' := 73) rfl (hb hby at_69) (by decide) (by decide) ?_
      show Steps p.tables e below (T34.setTop (mkF m 73 #[.val (.long p1), .second, .val (.long p2), .second, .val (.int p3), .val (.ref b1), .val (.int (1 : Int32)), .val (.int (1 : Int32)), .unset, .unset, .unset] [(.int (1 : Int32))])) _
      refine XS.istore X34.here hx rfl (hb hby at_73) rfl (l' := #[.val (.long p1), .second, .val (.long p2), .second, .val (.int p3), .val (.ref b1), .val (.int (1 : Int32)), .val (.int (1 : Int32)), .val (.int (1 : Int32)), .unset, .unset]) rfl ?_
      show Steps p.tables e below (T34.setTop (mkF m 75 #[.val (.long p1), .second, .val (.long p2), .second, .val (.int p3), .val (.ref b1), .val (.int (1 : Int32)), .val (.int (1 : Int32)), .val (.int (1 : Int32)), .unset, .unset] [])) _
      refine XT.lloadN X34.here hx rfl (hb hby at_75) rfl ?_
      show Steps p.tables e below (T34.setTop (mkF m 76 #[.val (.long p1), .second, .val (.long p2), .second, .val (.int p3), .val (.ref b1), .val (.int (1 : Int32)), .val (.int (1 : Int32)), .val (.int (1 : Int32)), .unset, .unset] [(.long p1)])) _
      refine X34.ldc2J hx hown (mvT hZ (hw _ (List.mem_of_getElem? (i := 43) rfl))) rfl (hb hby at_76) ?_
      show Steps p.tables e below (T34.setTop (mkF m 79 #[.val (.long p1), .second, .val (.long p2), .second, .val (.int p3), .val (.ref b1), .val (.int (1 : Int32)), .val (.int (1 : Int32)), .val (.int (1 : Int32)), .unset, .unset] [(.long (-9223372036854775808 : Int64)), (.long p1)])) _
      refine XT.lcmp X34.here hx rfl (hb hby at_79) rfl ?_
      exact k)
  by_cases c80_41 : p1 = (-9223372036854775808 : Int64)
  · skip
    have pre42 : own_Go p e below (s₁.setTop (entryFrame m #[(.long p1), (.long p2), (.int p3)] maxLocals)) (T34.setTop (mkF m 108 #[.val (.long p1), .second, .val (.long p2), .second, .val (.int p3), .val (.ref b1), .val (.int (1 : Int32)), .val (.int (1 : Int32)), .val (.int (1 : Int32)), .val (.int (1 : Int32)), .val (.int (1 : Int32))] [(.int (p3 &&& (1 : Int32)))])) := fun t k => pre40 t (by
        show Steps p.tables e below (T34.setTop (mkF m 80 #[.val (.long p1), .second, .val (.long p2), .second, .val (.int p3), .val (.ref b1), .val (.int (1 : Int32)), .val (.int (1 : Int32)), .val (.int (1 : Int32)), .unset, .unset] [(.int (XT.cmpL p1 (-9223372036854775808 : Int64)))])) _
        refine XS.ifYes X34.here hx rfl (pc0 := 80) (pc' := 94) rfl (hb hby at_80) rfl (XT.ll_eq_t c80_41) (by decide) (by decide) ?_
        show Steps p.tables e below (T34.setTop (mkF m 94 #[.val (.long p1), .second, .val (.long p2), .second, .val (.int p3), .val (.ref b1), .val (.int (1 : Int32)), .val (.int (1 : Int32)), .val (.int (1 : Int32)), .unset, .unset] [])) _
        refine XS.iconst X34.here hx rfl (hb hby at_94) ?_
        show Steps p.tables e below (T34.setTop (mkF m 95 #[.val (.long p1), .second, .val (.long p2), .second, .val (.int p3), .val (.ref b1), .val (.int (1 : Int32)), .val (.int (1 : Int32)), .val (.int (1 : Int32)), .unset, .unset] [(.int (1 : Int32))])) _
        refine XS.goto X34.here hx rfl (pc0 := 95) (pc' := 99) rfl (hb hby at_95) (by decide) (by decide) ?_
        show Steps p.tables e below (T34.setTop (mkF m 99 #[.val (.long p1), .second, .val (.long p2), .second, .val (.int p3), .val (.ref b1), .val (.int (1 : Int32)), .val (.int (1 : Int32)), .val (.int (1 : Int32)), .unset, .unset] [(.int (1 : Int32))])) _
        refine XS.istore X34.here hx rfl (hb hby at_99) rfl (l' := #[.val (.long p1), .second, .val (.long p2), .second, .val (.int p3), .val (.ref b1), .val (.int (1 : Int32)), .val (.int (1 : Int32)), .val (.int (1 : Int32)), .val (.int (1 : Int32)), .unset]) rfl ?_
        show Steps p.tables e below (T34.setTop (mkF m 101 #[.val (.long p1), .second, .val (.long p2), .second, .val (.int p3), .val (.ref b1), .val (.int (1 : Int32)), .val (.int (1 : Int32)), .val (.int (1 : Int32)), .val (.int (1 : Int32)), .unset] [])) _
        refine XS.iconst X34.here hx rfl (hb hby at_101) ?_
        show Steps p.tables e below (T34.setTop (mkF m 102 #[.val (.long p1), .second, .val (.long p2), .second, .val (.int p3), .val (.ref b1), .val (.int (1 : Int32)), .val (.int (1 : Int32)), .val (.int (1 : Int32)), .val (.int (1 : Int32)), .unset] [(.int (1 : Int32))])) _
        refine XS.istore X34.here hx rfl (hb hby at_102) rfl (l' := #[.val (.long p1), .second, .val (.long p2), .second, .val (.int p3), .val (.ref b1), .val (.int (1 : Int32)), .val (.int (1 : Int32)), .val (.int (1 : Int32)), .val (.int (1 : Int32)), .val (.int (1 : Int32))]) rfl ?_
        show Steps p.tables e below (T34.setTop (mkF m 104 #[.val (.long p1), .second, .val (.long p2), .second, .val (.int p3), .val (.ref b1), .val (.int (1 : Int32)), .val (.int (1 : Int32)), .val (.int (1 : Int32)), .val (.int (1 : Int32)), .val (.int (1 : Int32))] [])) _
        refine XS.iload X34.here hx rfl (hb hby at_104) rfl ?_
        show Steps p.tables e below (T34.setTop (mkF m 106 #[.val (.long p1), .second, .val (.long p2), .second, .val (.int p3), .val (.ref b1), .val (.int (1 : Int32)), .val (.int (1 : Int32)), .val (.int (1 : Int32)), .val (.int (1 : Int32)), .val (.int (1 : Int32))] [(.int p3)])) _
        refine XS.iconst X34.here hx rfl (hb hby at_106) ?_
        show Steps p.tables e below (T34.setTop (mkF m 107 #[.val (.long p1), .second, .val (.long p2), .second, .val (.int p3), .val (.ref b1), .val (.int (1 : Int32)), .val (.int (1 : Int32)), .val (.int (1 : Int32)), .val (.int (1 : Int32)), .val (.int (1 : Int32))] [(.int (1 : Int32)), (.int p3)])) _
        refine XS.iand X34.here hx rfl (hb hby at_107) rfl ?_
        exact k)
    by_cases c108_43 : (p3 &&& (1 : Int32)) = (0 : Int32)
    · skip
      have pre44 : own_Go p e below (s₁.setTop (entryFrame m #[(.long p1), (.long p2), (.int p3)] maxLocals)) (T34.setTop (mkF m 173 #[.val (.long p1), .second, .val (.long p2), .second, .val (.int p3), .val (.ref b1), .val (.int (1 : Int32)), .val (.int (1 : Int32)), .val (.int (1 : Int32)), .val (.int (1 : Int32)), .val (.int (1 : Int32))] [(.int (1 : Int32))])) := fun t k => pre42 t (by
          show Steps p.tables e below (T34.setTop (mkF m 108 #[.val (.long p1), .second, .val (.long p2), .second, .val (.int p3), .val (.ref b1), .val (.int (1 : Int32)), .val (.int (1 : Int32)), .val (.int (1 : Int32)), .val (.int (1 : Int32)), .val (.int (1 : Int32))] [(.int (p3 &&& (1 : Int32)))])) _
          refine XS.ifYes X34.here hx rfl (pc0 := 108) (pc' := 143) rfl (hb hby at_108) rfl (XT.i0_eq_t c108_43) (by decide) (by decide) ?_
          show Steps p.tables e below (T34.setTop (mkF m 143 #[.val (.long p1), .second, .val (.long p2), .second, .val (.int p3), .val (.ref b1), .val (.int (1 : Int32)), .val (.int (1 : Int32)), .val (.int (1 : Int32)), .val (.int (1 : Int32)), .val (.int (1 : Int32))] [])) _
          refine XS.iload X34.here hx rfl (hb hby at_143) rfl ?_
          show Steps p.tables e below (T34.setTop (mkF m 145 #[.val (.long p1), .second, .val (.long p2), .second, .val (.int p3), .val (.ref b1), .val (.int (1 : Int32)), .val (.int (1 : Int32)), .val (.int (1 : Int32)), .val (.int (1 : Int32)), .val (.int (1 : Int32))] [(.int (1 : Int32))])) _
          refine XS.ifNo X34.here hx rfl (hb hby at_145) rfl (XT.i0_eq_f (by decide)) ?_
          show Steps p.tables e below (T34.setTop (mkF m 148 #[.val (.long p1), .second, .val (.long p2), .second, .val (.int p3), .val (.ref b1), .val (.int (1 : Int32)), .val (.int (1 : Int32)), .val (.int (1 : Int32)), .val (.int (1 : Int32)), .val (.int (1 : Int32))] [])) _
          refine XS.iload X34.here hx rfl (hb hby at_148) rfl ?_
          show Steps p.tables e below (T34.setTop (mkF m 150 #[.val (.long p1), .second, .val (.long p2), .second, .val (.int p3), .val (.ref b1), .val (.int (1 : Int32)), .val (.int (1 : Int32)), .val (.int (1 : Int32)), .val (.int (1 : Int32)), .val (.int (1 : Int32))] [(.int (1 : Int32))])) _
          refine XS.ifNo X34.here hx rfl (hb hby at_150) rfl (XT.i0_eq_f (by decide)) ?_
          show Steps p.tables e below (T34.setTop (mkF m 153 #[.val (.long p1), .second, .val (.long p2), .second, .val (.int p3), .val (.ref b1), .val (.int (1 : Int32)), .val (.int (1 : Int32)), .val (.int (1 : Int32)), .val (.int (1 : Int32)), .val (.int (1 : Int32))] [])) _
          refine XS.iload X34.here hx rfl (hb hby at_153) rfl ?_
          show Steps p.tables e below (T34.setTop (mkF m 155 #[.val (.long p1), .second, .val (.long p2), .second, .val (.int p3), .val (.ref b1), .val (.int (1 : Int32)), .val (.int (1 : Int32)), .val (.int (1 : Int32)), .val (.int (1 : Int32)), .val (.int (1 : Int32))] [(.int (1 : Int32))])) _
          refine XS.ifNo X34.here hx rfl (hb hby at_155) rfl (XT.i0_eq_f (by decide)) ?_
          show Steps p.tables e below (T34.setTop (mkF m 158 #[.val (.long p1), .second, .val (.long p2), .second, .val (.int p3), .val (.ref b1), .val (.int (1 : Int32)), .val (.int (1 : Int32)), .val (.int (1 : Int32)), .val (.int (1 : Int32)), .val (.int (1 : Int32))] [])) _
          refine XS.iload X34.here hx rfl (hb hby at_158) rfl ?_
          show Steps p.tables e below (T34.setTop (mkF m 160 #[.val (.long p1), .second, .val (.long p2), .second, .val (.int p3), .val (.ref b1), .val (.int (1 : Int32)), .val (.int (1 : Int32)), .val (.int (1 : Int32)), .val (.int (1 : Int32)), .val (.int (1 : Int32))] [(.int (1 : Int32))])) _
          refine XS.ifNo X34.here hx rfl (hb hby at_160) rfl (XT.i0_eq_f (by decide)) ?_
          show Steps p.tables e below (T34.setTop (mkF m 163 #[.val (.long p1), .second, .val (.long p2), .second, .val (.int p3), .val (.ref b1), .val (.int (1 : Int32)), .val (.int (1 : Int32)), .val (.int (1 : Int32)), .val (.int (1 : Int32)), .val (.int (1 : Int32))] [])) _
          refine XS.iload X34.here hx rfl (hb hby at_163) rfl ?_
          show Steps p.tables e below (T34.setTop (mkF m 165 #[.val (.long p1), .second, .val (.long p2), .second, .val (.int p3), .val (.ref b1), .val (.int (1 : Int32)), .val (.int (1 : Int32)), .val (.int (1 : Int32)), .val (.int (1 : Int32)), .val (.int (1 : Int32))] [(.int (1 : Int32))])) _
          refine XS.ifNo X34.here hx rfl (hb hby at_165) rfl (XT.i0_eq_f (by decide)) ?_
          show Steps p.tables e below (T34.setTop (mkF m 168 #[.val (.long p1), .second, .val (.long p2), .second, .val (.int p3), .val (.ref b1), .val (.int (1 : Int32)), .val (.int (1 : Int32)), .val (.int (1 : Int32)), .val (.int (1 : Int32)), .val (.int (1 : Int32))] [])) _
          refine XS.iconst X34.here hx rfl (hb hby at_168) ?_
          show Steps p.tables e below (T34.setTop (mkF m 169 #[.val (.long p1), .second, .val (.long p2), .second, .val (.int p3), .val (.ref b1), .val (.int (1 : Int32)), .val (.int (1 : Int32)), .val (.int (1 : Int32)), .val (.int (1 : Int32)), .val (.int (1 : Int32))] [(.int (1 : Int32))])) _
          refine XS.goto X34.here hx rfl (pc0 := 169) (pc' := 173) rfl (hb hby at_169) (by decide) (by decide) ?_
          exact k)
      obtain ⟨fs, hr, hrun, hended, hW, hsame⟩ := X34.leave (v := some (.int (1 : Int32))) (fun h => by rw [Bd.returns] at h; cases h)
      refine ⟨_, _, pre44 _ ?_, hrun, hended, _, _, rfl, ?_, ⟨_, rfl⟩, hW, hsame.mono (by decide) (by decide)⟩
      · show Steps p.tables e below (T34.setTop (mkF m 173 #[.val (.long p1), .second, .val (.long p2), .second, .val (.int p3), .val (.ref b1), .val (.int (1 : Int32)), .val (.int (1 : Int32)), .val (.int (1 : Int32)), .val (.int (1 : Int32)), .val (.int (1 : Int32))] [(.int (1 : Int32))])) _
        exact retN X34 hx (t := .boolean) Bd.returns (by simp) (hb hby at_173) hr
      · show Q0 Z p1 p2 p3 h0 n0 _ T34.heap _
        exact ⟨rfl, N34⟩
    · skip
      have Zh6 : n0 ≤ T34.heap.size := Nat.le_trans Z0 K_39.1
      have pre45 : own_Go p e below (s₁.setTop (entryFrame m #[(.long p1), (.long p2), (.int p3)] maxLocals)) (T34.setTop (mkF m 113 #[.val (.long p1), .second, .val (.long p2), .second, .val (.int p3), .val (.ref b1), .val (.int (1 : Int32)), .val (.int (1 : Int32)), .val (.int (1 : Int32)), .val (.int (1 : Int32)), .val (.int (1 : Int32))] [(.ref b1)])) := fun t k => pre42 t (by
          show Steps p.tables e below (T34.setTop (mkF m 108 #[.val (.long p1), .second, .val (.long p2), .second, .val (.int p3), .val (.ref b1), .val (.int (1 : Int32)), .val (.int (1 : Int32)), .val (.int (1 : Int32)), .val (.int (1 : Int32)), .val (.int (1 : Int32))] [(.int (p3 &&& (1 : Int32)))])) _
          refine XS.ifNo X34.here hx rfl (hb hby at_108) rfl (XT.i0_eq_f c108_43) ?_
          show Steps p.tables e below (T34.setTop (mkF m 111 #[.val (.long p1), .second, .val (.long p2), .second, .val (.int p3), .val (.ref b1), .val (.int (1 : Int32)), .val (.int (1 : Int32)), .val (.int (1 : Int32)), .val (.int (1 : Int32)), .val (.int (1 : Int32))] [])) _
          refine XS.aload X34.here hx rfl (hb hby at_111) rfl rfl ?_
          exact k)
      obtain ⟨cq46, kq46, q46a, q46b, q46c⟩ := isOf hZ rfl Ex_38
      obtain ⟨_, _, ⟨T46, L46, k46, n46⟩, -, X46, ⟨Lc46, hQ46, l46, y46, z46⟩, st46⟩ := X34.virtualBack hx (y := (⟨"com/example/tallygate/tallygate/engine/KeyState", "unlock", "()V"⟩ : MethodName)) (z := (⟨"com/example/tallygate/tallygate/engine/KeyState", "unlock", "()V"⟩ : MethodName)) hown (mvT hZ (hw _ (List.mem_of_getElem? (i := 44) rfl))) (mvT hZ (hw _ (List.mem_of_getElem? (i := 45) rfl))) (notFace_of_selects (args := #[]) (mvT hZ (hw _ (List.mem_of_getElem? (i := 47) rfl)))) (mvT hZ (hw _ (List.mem_of_getElem? (i := 47) rfl))) (mvT hZ (hw _ (List.mem_of_getElem? (i := 46) rfl))) (by decide) (backOf (W := 0) (rm6 l Z a0 hw [] b1 _ T34.heap n0 Zh6 Ex_38 F_36 F_37 g_b1) hZ (hw _ (List.mem_of_getElem? (i := 48) rfl)) (hw _ (List.mem_of_getElem? (i := 2) rfl)) (by decide) (by decide)) q46a q46c (g := (mkF m 113 #[.val (.long p1), .second, .val (.long p2), .second, .val (.int p3), .val (.ref b1), .val (.int (1 : Int32)), .val (.int (1 : Int32)), .val (.int (1 : Int32)), .val (.int (1 : Int32)), .val (.int (1 : Int32))] [(.ref b1)])) rfl (by rw [hml]; rfl) (Steps.refl _) (argsL := []) (rest := []) (lenOf pd_0_0 rfl) rfl (by show 2 * 0 + _ ≤ _; exact Nat.le_of_eq rfl) (hb hby at_113) (fun _ _ => ⟨rfl, rfl, (by decide : 3 + 0 ≤ _), (by decide : 23 + 0 ≤ _)⟩)
      dsimp only [Pt.U, Pt.locs, Pt.cells, Pt.slots] at X46 l46 y46 z46 st46 hQ46
      subst l46 y46 z46
      obtain ⟨rfl, N46q, K46, Fe46, Fl46⟩ := hQ46
      have N46 := Fr.app N34 N46q
      have pre47 : own_Go p e below (s₁.setTop (entryFrame m #[(.long p1), (.long p2), (.int p3)] maxLocals)) (T46.setTop (mkF m 116 #[.val (.long p1), .second, .val (.long p2), .second, .val (.int p3), .val (.ref b1), .val (.int (1 : Int32)), .val (.int (1 : Int32)), .val (.int (1 : Int32)), .val (.int (1 : Int32)), .val (.int (1 : Int32))] [])) := fun t k => pre45 t (st46.trans k)
      have Ex_48 := Ex_38.keep K46
      have K_49 := K_39.trans K46 (allS (Or.inr sz_b1) all0)
      have Zh7 : n0 ≤ T46.heap.size := Nat.le_trans Z0 K_49.1
      have pre50 : own_Go p e below (s₁.setTop (entryFrame m #[(.long p1), (.long p2), (.int p3)] maxLocals)) (T46.setTop (mkF m 119 #[.val (.long p1), .second, .val (.long p2), .second, .val (.int p3), .val (.ref b1), .val (.int (1 : Int32)), .val (.int (1 : Int32)), .val (.int (1 : Int32)), .val (.int (1 : Int32)), .val (.int (1 : Int32))] [(.long p2), (.ref b1)])) := fun t k => pre47 t (by
          show Steps p.tables e below (T46.setTop (mkF m 116 #[.val (.long p1), .second, .val (.long p2), .second, .val (.int p3), .val (.ref b1), .val (.int (1 : Int32)), .val (.int (1 : Int32)), .val (.int (1 : Int32)), .val (.int (1 : Int32)), .val (.int (1 : Int32))] [])) _
          refine XS.aload X46.here hx rfl (hb hby at_116) rfl rfl ?_
          show Steps p.tables e below (T46.setTop (mkF m 118 #[.val (.long p1), .second, .val (.long p2), .second, .val (.int p3), .val (.ref b1), .val (.int (1 : Int32)), .val (.int (1 : Int32)), .val (.int (1 : Int32)), .val (.int (1 : Int32)), .val (.int (1 : Int32))] [(.ref b1)])) _
          refine XT.lloadN X46.here hx rfl (hb hby at_118) rfl ?_
          exact k)
      obtain ⟨cq51, kq51, q51a, q51b, q51c⟩ := isOf hZ rfl Ex_48
      obtain ⟨_, _, ⟨T51, L51, k51, n51⟩, -, X51, ⟨Lc51, hQ51, l51, y51, z51⟩, st51⟩ := X46.virtualBack hx (y := (⟨"com/example/tallygate/tallygate/engine/KeyState", "isLocked", "(J)Z"⟩ : MethodName)) (z := (⟨"com/example/tallygate/tallygate/engine/KeyState", "isLocked", "(J)Z"⟩ : MethodName)) hown (mvT hZ (hw _ (List.mem_of_getElem? (i := 31) rfl))) (mvT hZ (hw _ (List.mem_of_getElem? (i := 32) rfl))) (notFace_of_selects (args := #[]) (mvT hZ (hw _ (List.mem_of_getElem? (i := 34) rfl)))) (mvT hZ (hw _ (List.mem_of_getElem? (i := 34) rfl))) (mvT hZ (hw _ (List.mem_of_getElem? (i := 33) rfl))) (by decide) (backOf (W := 0) (rm4 l Z a0 hw [] b1 p2 (-9223372036854775808 : Int64) T46.heap n0 Zh7 Fe46) hZ (hw _ (List.mem_of_getElem? (i := 35) rfl)) (hw _ (List.mem_of_getElem? (i := 2) rfl)) (by decide) (by decide)) q51a q51c (g := (mkF m 119 #[.val (.long p1), .second, .val (.long p2), .second, .val (.int p3), .val (.ref b1), .val (.int (1 : Int32)), .val (.int (1 : Int32)), .val (.int (1 : Int32)), .val (.int (1 : Int32)), .val (.int (1 : Int32))] [(.long p2), (.ref b1)])) rfl (by rw [hml]; rfl) (Steps.refl _) (argsL := [(.long p2)]) (rest := []) (lenOf pd_0_1 rfl) rfl (by show 2 * 0 + _ ≤ _; exact Nat.le_of_eq rfl) (hb hby at_119) (fun _ _ => ⟨rfl, rfl, (by decide : 3 + 0 ≤ _), (by decide : 23 + 0 ≤ _)⟩)
      dsimp only [Pt.U, Pt.locs, Pt.cells, Pt.slots] at X51 l51 y51 z51 st51 hQ51
      subst l51 y51 z51
      obtain ⟨rfl, N51q, hh51⟩ := hQ51
      have N51 := Fr.app N46 N51q
      have pre52 : own_Go p e below (s₁.setTop (entryFrame m #[(.long p1), (.long p2), (.int p3)] maxLocals)) (T51.setTop (mkF m 122 #[.val (.long p1), .second, .val (.long p2), .second, .val (.int p3), .val (.ref b1), .val (.int (1 : Int32)), .val (.int (1 : Int32)), .val (.int (1 : Int32)), .val (.int (1 : Int32)), .val (.int (1 : Int32))] [(.int (own_lk (-9223372036854775808 : Int64) p2))])) := fun t k => pre50 t (st51.trans k)
      have F_53 := Fe46
      rw [← hh51] at F_53
      have F_54 := Fl46
      rw [← hh51] at F_54
      have Ex_55 := Ex_48
      rw [← hh51] at Ex_55
      have K_56 := K_49
      rw [← hh51] at K_56
      have Zh8 : n0 ≤ T51.heap.size := Nat.le_trans Z0 K_56.1
      have pre57 : own_Go p e below (s₁.setTop (entryFrame m #[(.long p1), (.long p2), (.int p3)] maxLocals)) (T51.setTop (mkF m 130 #[.val (.long p1), .second, .val (.long p2), .second, .val (.int p3), .val (.ref b1), .val (.int (1 : Int32)), .val (.int (1 : Int32)), .val (.int (1 : Int32)), .val (.int (1 : Int32)), .val (.int (1 : Int32))] [(.long (-9223372036854775808 : Int64)), (.ref b1)])) := fun t k => pre52 t (by
          show Steps p.tables e below (T51.setTop (mkF m 122 #[.val (.long p1), .second, .val (.long p2), .second, .val (.int p3), .val (.ref b1), .val (.int (1 : Int32)), .val (.int (1 : Int32)), .val (.int (1 : Int32)), .val (.int (1 : Int32)), .val (.int (1 : Int32))] [(.int (own_lk (-9223372036854775808 : Int64) p2))])) _
          refine XS.ifNo X51.here hx rfl (hb hby at_122) rfl (XT.i0_ne_f (own_lkmin p2)) ?_
          show Steps p.tables e below (T51.setTop (mkF m 125 #[.val (.long p1), .second, .val (.long p2), .second, .val (.int p3), .val (.ref b1), .val (.int (1 : Int32)), .val (.int (1 : Int32)), .val (.int (1 : Int32)), .val (.int (1 : Int32)), .val (.int (1 : Int32))] [])) _
          refine XS.aload X51.here hx rfl (hb hby at_125) rfl rfl ?_
          show Steps p.tables e below (T51.setTop (mkF m 127 #[.val (.long p1), .second, .val (.long p2), .second, .val (.int p3), .val (.ref b1), .val (.int (1 : Int32)), .val (.int (1 : Int32)), .val (.int (1 : Int32)), .val (.int (1 : Int32)), .val (.int (1 : Int32))] [(.ref b1)])) _
          refine X51.ldc2J hx hown (mvT hZ (hw _ (List.mem_of_getElem? (i := 43) rfl))) rfl (hb hby at_127) ?_
          exact k)
      obtain ⟨cq58, kq58, q58a, q58b, q58c⟩ := isOf hZ rfl Ex_55
      obtain ⟨_, _, ⟨T58, L58, k58, n58⟩, -, X58, ⟨Lc58, hQ58, l58, y58, z58⟩, st58⟩ := X51.virtualBack hx (y := (⟨"com/example/tallygate/tallygate/engine/KeyState", "isLocked", "(J)Z"⟩ : MethodName)) (z := (⟨"com/example/tallygate/tallygate/engine/KeyState", "isLocked", "(J)Z"⟩ : MethodName)) hown (mvT hZ (hw _ (List.mem_of_getElem? (i := 31) rfl))) (mvT hZ (hw _ (List.mem_of_getElem? (i := 32) rfl))) (notFace_of_selects (args := #[]) (mvT hZ (hw _ (List.mem_of_getElem? (i := 34) rfl)))) (mvT hZ (hw _ (List.mem_of_getElem? (i := 34) rfl))) (mvT hZ (hw _ (List.mem_of_getElem? (i := 33) rfl))) (by decide) (backOf (W := 0) (rm4 l Z a0 hw [] b1 (-9223372036854775808 : Int64) (-9223372036854775808 : Int64) T51.heap n0 Zh8 F_53) hZ (hw _ (List.mem_of_getElem? (i := 35) rfl)) (hw _ (List.mem_of_getElem? (i := 2) rfl)) (by decide) (by decide)) q58a q58c (g := (mkF m 130 #[.val (.long p1), .second, .val (.long p2), .second, .val (.int p3), .val (.ref b1), .val (.int (1 : Int32)), .val (.int (1 : Int32)), .val (.int (1 : Int32)), .val (.int (1 : Int32)), .val (.int (1 : Int32))] [(.long (-9223372036854775808 : Int64)), (.ref b1)])) rfl (by rw [hml]; rfl) (Steps.refl _) (argsL := [(.long (-9223372036854775808 : Int64))]) (rest := []) (lenOf pd_0_1 rfl) rfl (by show 2 * 0 + _ ≤ _; exact Nat.le_of_eq rfl) (hb hby at_130) (fun _ _ => ⟨rfl, rfl, (by decide : 3 + 0 ≤ _), (by decide : 23 + 0 ≤ _)⟩)
      dsimp only [Pt.U, Pt.locs, Pt.cells, Pt.slots] at X58 l58 y58 z58 st58 hQ58
      subst l58 y58 z58
      obtain ⟨rfl, N58q, hh58⟩ := hQ58
      have N58 := Fr.app N51 N58q
      have pre59 : own_Go p e below (s₁.setTop (entryFrame m #[(.long p1), (.long p2), (.int p3)] maxLocals)) (T58.setTop (mkF m 133 #[.val (.long p1), .second, .val (.long p2), .second, .val (.int p3), .val (.ref b1), .val (.int (1 : Int32)), .val (.int (1 : Int32)), .val (.int (1 : Int32)), .val (.int (1 : Int32)), .val (.int (1 : Int32))] [(.int (own_lk (-9223372036854775808 : Int64) (-9223372036854775808 : Int64)))])) := fun t k => pre57 t (st58.trans k)
      have F_60 := F_53
      rw [← hh58] at F_60
      have F_61 := F_54
      rw [← hh58] at F_61
      have Ex_62 := Ex_55
      rw [← hh58] at Ex_62
      have K_63 := K_56
      rw [← hh58] at K_63
      have pre64 : own_Go p e below (s₁.setTop (entryFrame m #[(.long p1), (.long p2), (.int p3)] maxLocals)) (T58.setTop (mkF m 173 #[.val (.long p1), .second, .val (.long p2), .second, .val (.int p3), .val (.ref b1), .val (.int (1 : Int32)), .val (.int (1 : Int32)), .val (.int (1 : Int32)), .val (.int (1 : Int32)), .val (.int (1 : Int32))] [(.int (1 : Int32))])) := fun t k => pre59 t (by
          show Steps p.tables e below (T58.setTop (mkF m 133 #[.val (.long p1), .second, .val (.long p2), .second, .val (.int p3), .val (.ref b1), .val (.int (1 : Int32)), .val (.int (1 : Int32)), .val (.int (1 : Int32)), .val (.int (1 : Int32)), .val (.int (1 : Int32))] [(.int (own_lk (-9223372036854775808 : Int64) (-9223372036854775808 : Int64)))])) _
          refine XS.ifNo X58.here hx rfl (hb hby at_133) rfl (XT.i0_ne_f (own_lkmin (-9223372036854775808 : Int64))) ?_
          show Steps p.tables e below (T58.setTop (mkF m 136 #[.val (.long p1), .second, .val (.long p2), .second, .val (.int p3), .val (.ref b1), .val (.int (1 : Int32)), .val (.int (1 : Int32)), .val (.int (1 : Int32)), .val (.int (1 : Int32)), .val (.int (1 : Int32))] [])) _
          refine XS.iconst X58.here hx rfl (hb hby at_136) ?_
          show Steps p.tables e below (T58.setTop (mkF m 137 #[.val (.long p1), .second, .val (.long p2), .second, .val (.int p3), .val (.ref b1), .val (.int (1 : Int32)), .val (.int (1 : Int32)), .val (.int (1 : Int32)), .val (.int (1 : Int32)), .val (.int (1 : Int32))] [(.int (1 : Int32))])) _
          refine XS.goto X58.here hx rfl (pc0 := 137) (pc' := 141) rfl (hb hby at_137) (by decide) (by decide) ?_
          show Steps p.tables e below (T58.setTop (mkF m 141 #[.val (.long p1), .second, .val (.long p2), .second, .val (.int p3), .val (.ref b1), .val (.int (1 : Int32)), .val (.int (1 : Int32)), .val (.int (1 : Int32)), .val (.int (1 : Int32)), .val (.int (1 : Int32))] [(.int (1 : Int32))])) _
          refine XS.istore X58.here hx rfl (hb hby at_141) rfl (l' := #[.val (.long p1), .second, .val (.long p2), .second, .val (.int p3), .val (.ref b1), .val (.int (1 : Int32)), .val (.int (1 : Int32)), .val (.int (1 : Int32)), .val (.int (1 : Int32)), .val (.int (1 : Int32))]) rfl ?_
          show Steps p.tables e below (T58.setTop (mkF m 143 #[.val (.long p1), .second, .val (.long p2), .second, .val (.int p3), .val (.ref b1), .val (.int (1 : Int32)), .val (.int (1 : Int32)), .val (.int (1 : Int32)), .val (.int (1 : Int32)), .val (.int (1 : Int32))] [])) _
          refine XS.iload X58.here hx rfl (hb hby at_143) rfl ?_
          show Steps p.tables e below (T58.setTop (mkF m 145 #[.val (.long p1), .second, .val (.long p2), .second, .val (.int p3), .val (.ref b1), .val (.int (1 : Int32)), .val (.int (1 : Int32)), .val (.int (1 : Int32)), .val (.int (1 : Int32)), .val (.int (1 : Int32))] [(.int (1 : Int32))])) _
          refine XS.ifNo X58.here hx rfl (hb hby at_145) rfl (XT.i0_eq_f (by decide)) ?_
          show Steps p.tables e below (T58.setTop (mkF m 148 #[.val (.long p1), .second, .val (.long p2), .second, .val (.int p3), .val (.ref b1), .val (.int (1 : Int32)), .val (.int (1 : Int32)), .val (.int (1 : Int32)), .val (.int (1 : Int32)), .val (.int (1 : Int32))] [])) _
          refine XS.iload X58.here hx rfl (hb hby at_148) rfl ?_
          show Steps p.tables e below (T58.setTop (mkF m 150 #[.val (.long p1), .second, .val (.long p2), .second, .val (.int p3), .val (.ref b1), .val (.int (1 : Int32)), .val (.int (1 : Int32)), .val (.int (1 : Int32)), .val (.int (1 : Int32)), .val (.int (1 : Int32))] [(.int (1 : Int32))])) _
          refine XS.ifNo X58.here hx rfl (hb hby at_150) rfl (XT.i0_eq_f (by decide)) ?_
          show Steps p.tables e below (T58.setTop (mkF m 153 #[.val (.long p1), .second, .val (.long p2), .second, .val (.int p3), .val (.ref b1), .val (.int (1 : Int32)), .val (.int (1 : Int32)), .val (.int (1 : Int32)), .val (.int (1 : Int32)), .val (.int (1 : Int32))] [])) _
          refine XS.iload X58.here hx rfl (hb hby at_153) rfl ?_
          show Steps p.tables e below (T58.setTop (mkF m 155 #[.val (.long p1), .second, .val (.long p2), .second, .val (.int p3), .val (.ref b1), .val (.int (1 : Int32)), .val (.int (1 : Int32)), .val (.int (1 : Int32)), .val (.int (1 : Int32)), .val (.int (1 : Int32))] [(.int (1 : Int32))])) _
          refine XS.ifNo X58.here hx rfl (hb hby at_155) rfl (XT.i0_eq_f (by decide)) ?_
          show Steps p.tables e below (T58.setTop (mkF m 158 #[.val (.long p1), .second, .val (.long p2), .second, .val (.int p3), .val (.ref b1), .val (.int (1 : Int32)), .val (.int (1 : Int32)), .val (.int (1 : Int32)), .val (.int (1 : Int32)), .val (.int (1 : Int32))] [])) _
          refine XS.iload X58.here hx rfl (hb hby at_158) rfl ?_
          show Steps p.tables e below (T58.setTop (mkF m 160 #[.val (.long p1), .second, .val (.long p2), .second, .val (.int p3), .val (.ref b1), .val (.int (1 : Int32)), .val (.int (1 : Int32)), .val (.int (1 : Int32)), .val (.int (1 : Int32)), .val (.int (1 : Int32))] [(.int (1 : Int32))])) _
          refine XS.ifNo X58.here hx rfl (hb hby at_160) rfl (XT.i0_eq_f (by decide)) ?_
          show Steps p.tables e below (T58.setTop (mkF m 163 #[.val (.long p1), .second, .val (.long p2), .second, .val (.int p3), .val (.ref b1), .val (.int (1 : Int32)), .val (.int (1 : Int32)), .val (.int (1 : Int32)), .val (.int (1 : Int32)), .val (.int (1 : Int32))] [])) _
          refine XS.iload X58.here hx rfl (hb hby at_163) rfl ?_
          show Steps p.tables e below (T58.setTop (mkF m 165 #[.val (.long p1), .second, .val (.long p2), .second, .val (.int p3), .val (.ref b1), .val (.int (1 : Int32)), .val (.int (1 : Int32)), .val (.int (1 : Int32)), .val (.int (1 : Int32)), .val (.int (1 : Int32))] [(.int (1 : Int32))])) _
          refine XS.ifNo X58.here hx rfl (hb hby at_165) rfl (XT.i0_eq_f (by decide)) ?_
          show Steps p.tables e below (T58.setTop (mkF m 168 #[.val (.long p1), .second, .val (.long p2), .second, .val (.int p3), .val (.ref b1), .val (.int (1 : Int32)), .val (.int (1 : Int32)), .val (.int (1 : Int32)), .val (.int (1 : Int32)), .val (.int (1 : Int32))] [])) _
          refine XS.iconst X58.here hx rfl (hb hby at_168) ?_
          show Steps p.tables e below (T58.setTop (mkF m 169 #[.val (.long p1), .second, .val (.long p2), .second, .val (.int p3), .val (.ref b1), .val (.int (1 : Int32)), .val (.int (1 : Int32)), .val (.int (1 : Int32)), .val (.int (1 : Int32)), .val (.int (1 : Int32))] [(.int (1 : Int32))])) _
          refine XS.goto X58.here hx rfl (pc0 := 169) (pc' := 173) rfl (hb hby at_169) (by decide) (by decide) ?_
          exact k)
      obtain ⟨fs, hr, hrun, hended, hW, hsame⟩ := X58.leave (v := some (.int (1 : Int32))) (fun h => by rw [Bd.returns] at h; cases h)
      refine ⟨_, _, pre64 _ ?_, hrun, hended, _, _, rfl, ?_, ⟨_, rfl⟩, hW, hsame.mono (by decide) (by decide)⟩
      · show Steps p.tables e below (T58.setTop (mkF m 173 #[.val (.long p1), .second, .val (.long p2), .second, .val (.int p3), .val (.ref b1), .val (.int (1 : Int32)), .val (.int (1 : Int32)), .val (.int (1 : Int32)), .val (.int (1 : Int32)), .val (.int (1 : Int32))] [(.int (1 : Int32))])) _
        exact retN X58 hx (t := .boolean) Bd.returns (by simp) (hb hby at_173) hr
      · show Q0 Z p1 p2 p3 h0 n0 _ T58.heap _
        exact ⟨rfl, N58⟩
  · skip
    have Zh9 : n0 ≤ T34.heap.size := Nat.le_trans Z0 K_39.1
    have pre65 : own_Go p e below (s₁.setTop (entryFrame m #[(.long p1), (.long p2), (.int p3)] maxLocals)) (T34.setTop (mkF m 88 #[.val (.long p1), .second, .val (.long p2), .second, .val (.int p3), .val (.ref b1), .val (.int (1 : Int32)), .val (.int (1 : Int32)), .val (.int (1 : Int32)), .unset, .unset] [(.long (p1 - (1 : Int64))), (.ref b1)])) := fun t k => pre40 t (by
        show Steps p.tables e below (T34.setTop (mkF m 80 #[.val (.long p1), .second, .val (.long p2), .second, .val (.int p3), .val (.ref b1), .val (.int (1 : Int32)), .val (.int (1 : Int32)), .val (.int (1 : Int32)), .unset, .unset] [(.int (XT.cmpL p1 (-9223372036854775808 : Int64)))])) _
        refine XS.ifNo X34.here hx rfl (hb hby at_80) rfl (XT.ll_eq_f c80_41) ?_
        show Steps p.tables e below (T34.setTop (mkF m 83 #[.val (.long p1), .second, .val (.long p2), .second, .val (.int p3), .val (.ref b1), .val (.int (1 : Int32)), .val (.int (1 : Int32)), .val (.int (1 : Int32)), .unset, .unset] [])) _
        refine XS.aload X34.here hx rfl (hb hby at_83) rfl rfl ?_
        show Steps p.tables e below (T34.setTop (mkF m 85 #[.val (.long p1), .second, .val (.long p2), .second, .val (.int p3), .val (.ref b1), .val (.int (1 : Int32)), .val (.int (1 : Int32)), .val (.int (1 : Int32)), .unset, .unset] [(.ref b1)])) _
        refine XT.lloadN X34.here hx rfl (hb hby at_85) rfl ?_
        show Steps p.tables e below (T34.setTop (mkF m 86 #[.val (.long p1), .second, .val (.long p2), .second, .val (.int p3), .val (.ref b1), .val (.int (1 : Int32)), .val (.int (1 : Int32)), .val (.int (1 : Int32)), .unset, .unset] [(.long p1), (.ref b1)])) _
        refine XT.lconst X34.here hx rfl (hb hby at_86) ?_
        show Steps p.tables e below (T34.setTop (mkF m 87 #[.val (.long p1), .second, .val (.long p2), .second, .val (.int p3), .val (.ref b1), .val (.int (1 : Int32)), .val (.int (1 : Int32)), .val (.int (1 : Int32)), .unset, .unset] [(.long (1 : Int64)), (.long p1), (.ref b1)])) _
        refine XT.lsub X34.here hx rfl (hb hby at_87) rfl ?_
        exact k)
    obtain ⟨cq66, kq66, q66a, q66b, q66c⟩ := isOf hZ rfl Ex_38
    obtain ⟨_, _, ⟨T66, L66, k66, n66⟩, -, X66, ⟨Lc66, hQ66, l66, y66, z66⟩, st66⟩ := X34.virtualBack hx (y := (⟨"com/example/tallygate/tallygate/engine/KeyState", "isLocked", "(J)Z"⟩ : MethodName)) (z := (⟨"com/example/tallygate/tallygate/engine/KeyState", "isLocked", "(J)Z"⟩ : MethodName)) hown (mvT hZ (hw _ (List.mem_of_getElem? (i := 31) rfl))) (mvT hZ (hw _ (List.mem_of_getElem? (i := 32) rfl))) (notFace_of_selects (args := #[]) (mvT hZ (hw _ (List.mem_of_getElem? (i := 34) rfl)))) (mvT hZ (hw _ (List.mem_of_getElem? (i := 34) rfl))) (mvT hZ (hw _ (List.mem_of_getElem? (i := 33) rfl))) (by decide) (backOf (W := 0) (rm4 l Z a0 hw [] b1 (p1 - (1 : Int64)) p1 T34.heap n0 Zh9 F_36) hZ (hw _ (List.mem_of_getElem? (i := 35) rfl)) (hw _ (List.mem_of_getElem? (i := 2) rfl)) (by decide) (by decide)) q66a q66c (g := (mkF m 88 #[.val (.long p1), .second, .val (.long p2), .second, .val (.int p3), .val (.ref b1), .val (.int (1 : Int32)), .val (.int (1 : Int32)), .val (.int (1 : Int32)), .unset, .unset] [(.long (p1 - (1 : Int64))), (.ref b1)])) rfl (by rw [hml]; rfl) (Steps.refl _) (argsL := [(.long (p1 - (1 : Int64)))]) (rest := []) (lenOf pd_0_1 rfl) rfl (by show 2 * 0 + _ ≤ _; exact Nat.le_of_eq rfl) (hb hby at_88) (fun _ _ => ⟨rfl, rfl, (by decide : 3 + 0 ≤ _), (by decide : 23 + 0 ≤ _)⟩)
    dsimp only [Pt.U, Pt.locs, Pt.cells, Pt.slots] at X66 l66 y66 z66 st66 hQ66
    subst l66 y66 z66
    obtain ⟨rfl, N66q, hh66⟩ := hQ66
    have N66 := Fr.app N34 N66q
    have pre67 : own_Go p e below (s₁.setTop (entryFrame m #[(.long p1), (.long p2), (.int p3)] maxLocals)) (T66.setTop (mkF m 91 #[.val (.long p1), .second, .val (.long p2), .second, .val (.int p3), .val (.ref b1), .val (.int (1 : Int32)), .val (.int (1 : Int32)), .val (.int (1 : Int32)), .unset, .unset] [(.int (own_lk p1 (p1 - (1 : Int64))))])) := fun t k => pre65 t (st66.trans k)
    have F_68 := F_36
    rw [← hh66] at F_68
    have F_69 := F_37
    rw [← hh66] at F_69
    have Ex_70 := Ex_38
    rw [← hh66] at Ex_70
    have K_71 := K_39
    rw [← hh66] at K_71
    have pre72 : own_Go p e below (s₁.setTop (entryFrame m #[(.long p1), (.long p2), (.int p3)] maxLocals)) (T66.setTop (mkF m 108 #[.val (.long p1), .second, .val (.long p2), .second, .val (.int p3), .val (.ref b1), .val (.int (1 : Int32)), .val (.int (1 : Int32)), .val (.int (1 : Int32)), .val (.int (1 : Int32)), .val (.int (1 : Int32))] [(.int (p3 &&& (1 : Int32)))])) := fun t k => pre67 t (by
        show Steps p.tables e below (T66.setTop (mkF m 91 #[.val (.long p1), .second, .val (.long p2), .second, .val (.int p3), .val (.ref b1), .val (.int (1 : Int32)), .val (.int (1 : Int32)), .val (.int (1 : Int32)), .unset, .unset] [(.int (own_lk p1 (p1 - (1 : Int64))))])) _
        refine XS.ifNo X66.here hx rfl (hb hby at_91) rfl (XT.i0_eq_f (fun q => absurd ((own_lkpred c80_41).symm.trans q) (by decide))) ?_
        show Steps p.tables e below (T66.setTop (mkF m 94 #[.val (.long p1), .second, .val (.long p2), .second, .val (.int p3), .val (.ref b1), .val (.int (1 : Int32)), .val (.int (1 : Int32)), .val (.int (1 : Int32)), .unset, .unset] [])) _
        refine XS.iconst X66.here hx rfl (hb hby at_94) ?_
        show Steps p.tables e below (T66.setTop (mkF m 95 #[.val (.long p1), .second, .val (.long p2), .second, .val (.int p3), .val (.ref b1), .val (.int (1 : Int32)), .val (.int (1 : Int32)), .val (.int (1 : Int32)), .unset, .unset] [(.int (1 : Int32))])) _
        refine XS.goto X66.here hx rfl (pc0 := 95) (pc' := 99) rfl (hb hby at_95) (by decide) (by decide) ?_
        show Steps p.tables e below (T66.setTop (mkF m 99 #[.val (.long p1), .second, .val (.long p2), .second, .val (.int p3), .val (.ref b1), .val (.int (1 : Int32)), .val (.int (1 : Int32)), .val (.int (1 : Int32)), .unset, .unset] [(.int (1 : Int32))])) _
        refine XS.istore X66.here hx rfl (hb hby at_99) rfl (l' := #[.val (.long p1), .second, .val (.long p2), .second, .val (.int p3), .val (.ref b1), .val (.int (1 : Int32)), .val (.int (1 : Int32)), .val (.int (1 : Int32)), .val (.int (1 : Int32)), .unset]) rfl ?_
        show Steps p.tables e below (T66.setTop (mkF m 101 #[.val (.long p1), .second, .val (.long p2), .second, .val (.int p3), .val (.ref b1), .val (.int (1 : Int32)), .val (.int (1 : Int32)), .val (.int (1 : Int32)), .val (.int (1 : Int32)), .unset] [])) _
        refine XS.iconst X66.here hx rfl (hb hby at_101) ?_
        show Steps p.tables e below (T66.setTop (mkF m 102 #[.val (.long p1), .second, .val (.long p2), .second, .val (.int p3), .val (.ref b1), .val (.int (1 : Int32)), .val (.int (1 : Int32)), .val (.int (1 : Int32)), .val (.int (1 : Int32)), .unset] [(.int (1 : Int32))])) _
        refine XS.istore X66.here hx rfl (hb hby at_102) rfl (l' := #[.val (.long p1), .second, .val (.long p2), .second, .val (.int p3), .val (.ref b1), .val (.int (1 : Int32)), .val (.int (1 : Int32)), .val (.int (1 : Int32)), .val (.int (1 : Int32)), .val (.int (1 : Int32))]) rfl ?_
        show Steps p.tables e below (T66.setTop (mkF m 104 #[.val (.long p1), .second, .val (.long p2), .second, .val (.int p3), .val (.ref b1), .val (.int (1 : Int32)), .val (.int (1 : Int32)), .val (.int (1 : Int32)), .val (.int (1 : Int32)), .val (.int (1 : Int32))] [])) _
        refine XS.iload X66.here hx rfl (hb hby at_104) rfl ?_
        show Steps p.tables e below (T66.setTop (mkF m 106 #[.val (.long p1), .second, .val (.long p2), .second, .val (.int p3), .val (.ref b1), .val (.int (1 : Int32)), .val (.int (1 : Int32)), .val (.int (1 : Int32)), .val (.int (1 : Int32)), .val (.int (1 : Int32))] [(.int p3)])) _
        refine XS.iconst X66.here hx rfl (hb hby at_106) ?_
        show Steps p.tables e below (T66.setTop (mkF m 107 #[.val (.long p1), .second, .val (.long p2), .second, .val (.int p3), .val (.ref b1), .val (.int (1 : Int32)), .val (.int (1 : Int32)), .val (.int (1 : Int32)), .val (.int (1 : Int32)), .val (.int (1 : Int32))] [(.int (1 : Int32)), (.int p3)])) _
        refine XS.iand X66.here hx rfl (hb hby at_107) rfl ?_
        exact k)
    by_cases c108_73 : (p3 &&& (1 : Int32)) = (0 : Int32)
    · skip
      have pre74 : own_Go p e below (s₁.setTop (entryFrame m #[(.long p1), (.long p2), (.int p3)] maxLocals)) (T66.setTop (mkF m 173 #[.val (.long p1), .second, .val (.long p2), .second, .val (.int p3), .val (.ref b1), .val (.int (1 : Int32)), .val (.int (1 : Int32)), .val (.int (1 : Int32)), .val (.int (1 : Int32)), .val (.int (1 : Int32))] [(.int (1 : Int32))])) := fun t k => pre72 t (by
          show Steps p.tables e below (T66.setTop (mkF m 108 #[.val (.long p1), .second, .val (.long p2), .second, .val (.int p3), .val (.ref b1), .val (.int (1 : Int32)), .val (.int (1 : Int32)), .val (.int (1 : Int32)), .val (.int (1 : Int32)), .val (.int (1 : Int32))] [(.int (p3 &&& (1 : Int32)))])) _
          refine XS.ifYes X66.here hx rfl (pc0 := 108) (pc' := 143) rfl (hb hby at_108) rfl (XT.i0_eq_t c108_73) (by decide) (by decide) ?_
          show Steps p.tables e below (T66.setTop (mkF m 143 #[.val (.long p1), .second, .val (.long p2), .second, .val (.int p3), .val (.ref b1), .val (.int (1 : Int32)), .val (.int (1 : Int32)), .val (.int (1 : Int32)), .val (.int (1 : Int32)), .val (.int (1 : Int32))] [])) _
          refine XS.iload X66.here hx rfl (hb hby at_143) rfl ?_
          show Steps p.tables e below (T66.setTop (mkF m 145 #[.val (.long p1), .second, .val (.long p2), .second, .val (.int p3), .val (.ref b1), .val (.int (1 : Int32)), .val (.int (1 : Int32)), .val (.int (1 : Int32)), .val (.int (1 : Int32)), .val (.int (1 : Int32))] [(.int (1 : Int32))])) _
          refine XS.ifNo X66.here hx rfl (hb hby at_145) rfl (XT.i0_eq_f (by decide)) ?_
          show Steps p.tables e below (T66.setTop (mkF m 148 #[.val (.long p1), .second, .val (.long p2), .second, .val (.int p3), .val (.ref b1), .val (.int (1 : Int32)), .val (.int (1 : Int32)), .val (.int (1 : Int32)), .val (.int (1 : Int32)), .val (.int (1 : Int32))] [])) _
          refine XS.iload X66.here hx rfl (hb hby at_148) rfl ?_
          show Steps p.tables e below (T66.setTop (mkF m 150 #[.val (.long p1), .second, .val (.long p2), .second, .val (.int p3), .val (.ref b1), .val (.int (1 : Int32)), .val (.int (1 : Int32)), .val (.int (1 : Int32)), .val (.int (1 : Int32)), .val (.int (1 : Int32))] [(.int (1 : Int32))])) _
          refine XS.ifNo X66.here hx rfl (hb hby at_150) rfl (XT.i0_eq_f (by decide)) ?_
          show Steps p.tables e below (T66.setTop (mkF m 153 #[.val (.long p1), .second, .val (.long p2), .second, .val (.int p3), .val (.ref b1), .val (.int (1 : Int32)), .val (.int (1 : Int32)), .val (.int (1 : Int32)), .val (.int (1 : Int32)), .val (.int (1 : Int32))] [])) _
          refine XS.iload X66.here hx rfl (hb hby at_153) rfl ?_
          show Steps p.tables e below (T66.setTop (mkF m 155 #[.val (.long p1), .second, .val (.long p2), .second, .val (.int p3), .val (.ref b1), .val (.int (1 : Int32)), .val (.int (1 : Int32)), .val (.int (1 : Int32)), .val (.int (1 : Int32)), .val (.int (1 : Int32))] [(.int (1 : Int32))])) _
          refine XS.ifNo X66.here hx rfl (hb hby at_155) rfl (XT.i0_eq_f (by decide)) ?_
          show Steps p.tables e below (T66.setTop (mkF m 158 #[.val (.long p1), .second, .val (.long p2), .second, .val (.int p3), .val (.ref b1), .val (.int (1 : Int32)), .val (.int (1 : Int32)), .val (.int (1 : Int32)), .val (.int (1 : Int32)), .val (.int (1 : Int32))] [])) _
          refine XS.iload X66.here hx rfl (hb hby at_158) rfl ?_
          show Steps p.tables e below (T66.setTop (mkF m 160 #[.val (.long p1), .second, .val (.long p2), .second, .val (.int p3), .val (.ref b1), .val (.int (1 : Int32)), .val (.int (1 : Int32)), .val (.int (1 : Int32)), .val (.int (1 : Int32)), .val (.int (1 : Int32))] [(.int (1 : Int32))])) _
          refine XS.ifNo X66.here hx rfl (hb hby at_160) rfl (XT.i0_eq_f (by decide)) ?_
          show Steps p.tables e below (T66.setTop (mkF m 163 #[.val (.long p1), .second, .val (.long p2), .second, .val (.int p3), .val (.ref b1), .val (.int (1 : Int32)), .val (.int (1 : Int32)), .val (.int (1 : Int32)), .val (.int (1 : Int32)), .val (.int (1 : Int32))] [])) _
          refine XS.iload X66.here hx rfl (hb hby at_163) rfl ?_
          show Steps p.tables e below (T66.setTop (mkF m 165 #[.val (.long p1), .second, .val (.long p2), .second, .val (.int p3), .val (.ref b1), .val (.int (1 : Int32)), .val (.int (1 : Int32)), .val (.int (1 : Int32)), .val (.int (1 : Int32)), .val (.int (1 : Int32))] [(.int (1 : Int32))])) _
          refine XS.ifNo X66.here hx rfl (hb hby at_165) rfl (XT.i0_eq_f (by decide)) ?_
          show Steps p.tables e below (T66.setTop (mkF m 168 #[.val (.long p1), .second, .val (.long p2), .second, .val (.int p3), .val (.ref b1), .val (.int (1 : Int32)), .val (.int (1 : Int32)), .val (.int (1 : Int32)), .val (.int (1 : Int32)), .val (.int (1 : Int32))] [])) _
          refine XS.iconst X66.here hx rfl (hb hby at_168) ?_
          show Steps p.tables e below (T66.setTop (mkF m 169 #[.val (.long p1), .second, .val (.long p2), .second, .val (.int p3), .val (.ref b1), .val (.int (1 : Int32)), .val (.int (1 : Int32)), .val (.int (1 : Int32)), .val (.int (1 : Int32)), .val (.int (1 : Int32))] [(.int (1 : Int32))])) _
          refine XS.goto X66.here hx rfl (pc0 := 169) (pc' := 173) rfl (hb hby at_169) (by decide) (by decide) ?_
          exact k)
      obtain ⟨fs, hr, hrun, hended, hW, hsame⟩ := X66.leave (v := some (.int (1 : Int32))) (fun h => by rw [Bd.returns] at h; cases h)
      refine ⟨_, _, pre74 _ ?_, hrun, hended, _, _, rfl, ?_, ⟨_, rfl⟩, hW, hsame.mono (by decide) (by decide)⟩
      · show Steps p.tables e below (T66.setTop (mkF m 173 #[.val (.long p1), .second, .val (.long p2), .second, .val (.int p3), .val (.ref b1), .val (.int (1 : Int32)), .val (.int (1 : Int32)), .val (.int (1 : Int32)), .val (.int (1 : Int32)), .val (.int (1 : Int32))] [(.int (1 : Int32))])) _
        exact retN X66 hx (t := .boolean) Bd.returns (by simp) (hb hby at_173) hr
      · show Q0 Z p1 p2 p3 h0 n0 _ T66.heap _
        exact ⟨rfl, N66⟩
    · skip
      have Zh10 : n0 ≤ T66.heap.size := Nat.le_trans Z0 K_71.1
      have pre75 : own_Go p e below (s₁.setTop (entryFrame m #[(.long p1), (.long p2), (.int p3)] maxLocals)) (T66.setTop (mkF m 113 #[.val (.long p1), .second, .val (.long p2), .second, .val (.int p3), .val (.ref b1), .val (.int (1 : Int32)), .val (.int (1 : Int32)), .val (.int (1 : Int32)), .val (.int (1 : Int32)), .val (.int (1 : Int32))] [(.ref b1)])) := fun t k => pre72 t (by
          show Steps p.tables e below (T66.setTop (mkF m 108 #[.val (.long p1), .second, .val (.long p2), .second, .val (.int p3), .val (.ref b1), .val (.int (1 : Int32)), .val (.int (1 : Int32)), .val (.int (1 : Int32)), .val (.int (1 : Int32)), .val (.int (1 : Int32))] [(.int (p3 &&& (1 : Int32)))])) _
          refine XS.ifNo X66.here hx rfl (hb hby at_108) rfl (XT.i0_eq_f c108_73) ?_
          show Steps p.tables e below (T66.setTop (mkF m 111 #[.val (.long p1), .second, .val (.long p2), .second, .val (.int p3), .val (.ref b1), .val (.int (1 : Int32)), .val (.int (1 : Int32)), .val (.int (1 : Int32)), .val (.int (1 : Int32)), .val (.int (1 : Int32))] [])) _
          refine XS.aload X66.here hx rfl (hb hby at_111) rfl rfl ?_
          exact k)
      obtain ⟨cq76, kq76, q76a, q76b, q76c⟩ := isOf hZ rfl Ex_70
      obtain ⟨_, _, ⟨T76, L76, k76, n76⟩, -, X76, ⟨Lc76, hQ76, l76, y76, z76⟩, st76⟩ := X66.virtualBack hx (y := (⟨"com/example/tallygate/tallygate/engine/KeyState", "unlock", "()V"⟩ : MethodName)) (z := (⟨"com/example/tallygate/tallygate/engine/KeyState", "unlock", "()V"⟩ : MethodName)) hown (mvT hZ (hw _ (List.mem_of_getElem? (i := 44) rfl))) (mvT hZ (hw _ (List.mem_of_getElem? (i := 45) rfl))) (notFace_of_selects (args := #[]) (mvT hZ (hw _ (List.mem_of_getElem? (i := 47) rfl)))) (mvT hZ (hw _ (List.mem_of_getElem? (i := 47) rfl))) (mvT hZ (hw _ (List.mem_of_getElem? (i := 46) rfl))) (by decide) (backOf (W := 0) (rm6 l Z a0 hw [] b1 _ T66.heap n0 Zh10 Ex_70 F_68 F_69 g_b1) hZ (hw _ (List.mem_of_getElem? (i := 48) rfl)) (hw _ (List.mem_of_getElem? (i := 2) rfl)) (by decide) (by decide)) q76a q76c (g := (mkF m 113 #[.val (.long p1), .second, .val (.long p2), .second, .val (.int p3), .val (.ref b1), .val (.int (1 : Int32)), .val (.int (1 : Int32)), .val (.int (1 : Int32)), .val (.int (1 : Int32)), .val (.int (1 : Int32))] [(.ref b1)])) rfl (by rw [hml]; rfl) (Steps.refl _) (argsL := []) (rest := []) (lenOf pd_0_0 rfl) rfl (by show 2 * 0 + _ ≤ _; exact Nat.le_of_eq rfl) (hb hby at_113) (fun _ _ => ⟨rfl, rfl, (by decide : 3 + 0 ≤ _), (by decide : 23 + 0 ≤ _)⟩)
      dsimp only [Pt.U, Pt.locs, Pt.cells, Pt.slots] at X76 l76 y76 z76 st76 hQ76
      subst l76 y76 z76
      obtain ⟨rfl, N76q, K76, Fe76, Fl76⟩ := hQ76
      have N76 := Fr.app N66 N76q
      have pre77 : own_Go p e below (s₁.setTop (entryFrame m #[(.long p1), (.long p2), (.int p3)] maxLocals)) (T76.setTop (mkF m 116 #[.val (.long p1), .second, .val (.long p2), .second, .val (.int p3), .val (.ref b1), .val (.int (1 : Int32)), .val (.int (1 : Int32)), .val (.int (1 : Int32)), .val (.int (1 : Int32)), .val (.int (1 : Int32))] [])) := fun t k => pre75 t (st76.trans k)
      have Ex_78 := Ex_70.keep K76
      have K_79 := K_71.trans K76 (allS (Or.inr sz_b1) all0)
      have Zh11 : n0 ≤ T76.heap.size := Nat.le_trans Z0 K_79.1
      have pre80 : own_Go p e below (s₁.setTop (entryFrame m #[(.long p1), (.long p2), (.int p3)] maxLocals)) (T76.setTop (mkF m 119 #[.val (.long p1), .second, .val (.long p2), .second, .val (.int p3), .val (.ref b1), .val (.int (1 : Int32)), .val (.int (1 : Int32)), .val (.int (1 : Int32)), .val (.int (1 : Int32)), .val (.int (1 : Int32))] [(.long p2), (.ref b1)])) := fun t k => pre77 t (by
          show Steps p.tables e below (T76.setTop (mkF m 116 #[.val (.long p1), .second, .val (.long p2), .second, .val (.int p3), .val (.ref b1), .val (.int (1 : Int32)), .val (.int (1 : Int32)), .val (.int (1 : Int32)), .val (.int (1 : Int32)), .val (.int (1 : Int32))] [])) _
          refine XS.aload X76.here hx rfl (hb hby at_116) rfl rfl ?_
          show Steps p.tables e below (T76.setTop (mkF m 118 #[.val (.long p1), .second, .val (.long p2), .second, .val (.int p3), .val (.ref b1), .val (.int (1 : Int32)), .val (.int (1 : Int32)), .val (.int (1 : Int32)), .val (.int (1 : Int32)), .val (.int (1 : Int32))] [(.ref b1)])) _
          refine XT.lloadN X76.here hx rfl (hb hby at_118) rfl ?_
          exact k)
      obtain ⟨cq81, kq81, q81a, q81b, q81c⟩ := isOf hZ rfl Ex_78
      obtain ⟨_, _, ⟨T81, L81, k81, n81⟩, -, X81, ⟨Lc81, hQ81, l81, y81, z81⟩, st81⟩ := X76.virtualBack hx (y := (⟨"com/example/tallygate/tallygate/engine/KeyState", "isLocked", "(J)Z"⟩ : MethodName)) (z := (⟨"com/example/tallygate/tallygate/engine/KeyState", "isLocked", "(J)Z"⟩ : MethodName)) hown (mvT hZ (hw _ (List.mem_of_getElem? (i := 31) rfl))) (mvT hZ (hw _ (List.mem_of_getElem? (i := 32) rfl))) (notFace_of_selects (args := #[]) (mvT hZ (hw _ (List.mem_of_getElem? (i := 34) rfl)))) (mvT hZ (hw _ (List.mem_of_getElem? (i := 34) rfl))) (mvT hZ (hw _ (List.mem_of_getElem? (i := 33) rfl))) (by decide) (backOf (W := 0) (rm4 l Z a0 hw [] b1 p2 (-9223372036854775808 : Int64) T76.heap n0 Zh11 Fe76) hZ (hw _ (List.mem_of_getElem? (i := 35) rfl)) (hw _ (List.mem_of_getElem? (i := 2) rfl)) (by decide) (by decide)) q81a q81c (g := (mkF m 119 #[.val (.long p1), .second, .val (.long p2), .second, .val (.int p3), .val (.ref b1), .val (.int (1 : Int32)), .val (.int (1 : Int32)), .val (.int (1 : Int32)), .val (.int (1 : Int32)), .val (.int (1 : Int32))] [(.long p2), (.ref b1)])) rfl (by rw [hml]; rfl) (Steps.refl _) (argsL := [(.long p2)]) (rest := []) (lenOf pd_0_1 rfl) rfl (by show 2 * 0 + _ ≤ _; exact Nat.le_of_eq rfl) (hb hby at_119) (fun _ _ => ⟨rfl, rfl, (by decide : 3 + 0 ≤ _), (by decide : 23 + 0 ≤ _)⟩)
      dsimp only [Pt.U, Pt.locs, Pt.cells, Pt.slots] at X81 l81 y81 z81 st81 hQ81
      subst l81 y81 z81
      obtain ⟨rfl, N81q, hh81⟩ := hQ81
      have N81 := Fr.app N76 N81q
      have pre82 : own_Go p e below (s₁.setTop (entryFrame m #[(.long p1), (.long p2), (.int p3)] maxLocals)) (T81.setTop (mkF m 122 #[.val (.long p1), .second, .val (.long p2), .second, .val (.int p3), .val (.ref b1), .val (.int (1 : Int32)), .val (.int (1 : Int32)), .val (.int (1 : Int32)), .val (.int (1 : Int32)), .val (.int (1 : Int32))] [(.int (own_lk (-9223372036854775808 : Int64) p2))])) := fun t k => pre80 t (st81.trans k)
      have F_83 := Fe76
      rw [← hh81] at F_83
      have F_84 := Fl76
      rw [← hh81] at F_84
      have Ex_85 := Ex_78
      rw [← hh81] at Ex_85
      have K_86 := K_79
      rw [← hh81] at K_86
      have Zh12 : n0 ≤ T81.heap.size := Nat.le_trans Z0 K_86.1
      have pre87 : own_Go p e below (s₁.setTop (entryFrame m #[(.long p1), (.long p2), (.int p3)] maxLocals)) (T81.setTop (mkF m 130 #[.val (.long p1), .second, .val (.long p2), .second, .val (.int p3), .val (.ref b1), .val (.int (1 : Int32)), .val (.int (1 : Int32)), .val (.int (1 : Int32)), .val (.int (1 : Int32)), .val (.int (1 : Int32))] [(.long (-9223372036854775808 : Int64)), (.ref b1)])) := fun t k => pre82 t (by
          show Steps p.tables e below (T81.setTop (mkF m 122 #[.val (.long p1), .second, .val (.long p2), .second, .val (.int p3), .val (.ref b1), .val (.int (1 : Int32)), .val (.int (1 : Int32)), .val (.int (1 : Int32)), .val (.int (1 : Int32)), .val (.int (1 : Int32))] [(.int (own_lk (-9223372036854775808 : Int64) p2))])) _
          refine XS.ifNo X81.here hx rfl (hb hby at_122) rfl (XT.i0_ne_f (own_lkmin p2)) ?_
          show Steps p.tables e below (T81.setTop (mkF m 125 #[.val (.long p1), .second, .val (.long p2), .second, .val (.int p3), .val (.ref b1), .val (.int (1 : Int32)), .val (.int (1 : Int32)), .val (.int (1 : Int32)), .val (.int (1 : Int32)), .val (.int (1 : Int32))] [])) _
          refine XS.aload X81.here hx rfl (hb hby at_125) rfl rfl ?_
          show Steps p.tables e below (T81.setTop (mkF m 127 #[.val (.long p1), .second, .val (.long p2), .second, .val (.int p3), .val (.ref b1), .val (.int (1 : Int32)), .val (.int (1 : Int32)), .val (.int (1 : Int32)), .val (.int (1 : Int32)), .val (.int (1 : Int32))] [(.ref b1)])) _
          refine X81.ldc2J hx hown (mvT hZ (hw _ (List.mem_of_getElem? (i := 43) rfl))) rfl (hb hby at_127) ?_
          exact k)
      obtain ⟨cq88, kq88, q88a, q88b, q88c⟩ := isOf hZ rfl Ex_85
      obtain ⟨_, _, ⟨T88, L88, k88, n88⟩, -, X88, ⟨Lc88, hQ88, l88, y88, z88⟩, st88⟩ := X81.virtualBack hx (y := (⟨"com/example/tallygate/tallygate/engine/KeyState", "isLocked", "(J)Z"⟩ : MethodName)) (z := (⟨"com/example/tallygate/tallygate/engine/KeyState", "isLocked", "(J)Z"⟩ : MethodName)) hown (mvT hZ (hw _ (List.mem_of_getElem? (i := 31) rfl))) (mvT hZ (hw _ (List.mem_of_getElem? (i := 32) rfl))) (notFace_of_selects (args := #[]) (mvT hZ (hw _ (List.mem_of_getElem? (i := 34) rfl)))) (mvT hZ (hw _ (List.mem_of_getElem? (i := 34) rfl))) (mvT hZ (hw _ (List.mem_of_getElem? (i := 33) rfl))) (by decide) (backOf (W := 0) (rm4 l Z a0 hw [] b1 (-9223372036854775808 : Int64) (-9223372036854775808 : Int64) T81.heap n0 Zh12 F_83) hZ (hw _ (List.mem_of_getElem? (i := 35) rfl)) (hw _ (List.mem_of_getElem? (i := 2) rfl)) (by decide) (by decide)) q88a q88c (g := (mkF m 130 #[.val (.long p1), .second, .val (.long p2), .second, .val (.int p3), .val (.ref b1), .val (.int (1 : Int32)), .val (.int (1 : Int32)), .val (.int (1 : Int32)), .val (.int (1 : Int32)), .val (.int (1 : Int32))] [(.long (-9223372036854775808 : Int64)), (.ref b1)])) rfl (by rw [hml]; rfl) (Steps.refl _) (argsL := [(.long (-9223372036854775808 : Int64))]) (rest := []) (lenOf pd_0_1 rfl) rfl (by show 2 * 0 + _ ≤ _; exact Nat.le_of_eq rfl) (hb hby at_130) (fun _ _ => ⟨rfl, rfl, (by decide : 3 + 0 ≤ _), (by decide : 23 + 0 ≤ _)⟩)
      dsimp only [Pt.U, Pt.locs, Pt.cells, Pt.slots] at X88 l88 y88 z88 st88 hQ88
      subst l88 y88 z88
      obtain ⟨rfl, N88q, hh88⟩ := hQ88
      have N88 := Fr.app N81 N88q
      have pre89 : own_Go p e below (s₁.setTop (entryFrame m #[(.long p1), (.long p2), (.int p3)] maxLocals)) (T88.setTop (mkF m 133 #[.val (.long p1), .second, .val (.long p2), .second, .val (.int p3), .val (.ref b1), .val (.int (1 : Int32)), .val (.int (1 : Int32)), .val (.int (1 : Int32)), .val (.int (1 : Int32)), .val (.int (1 : Int32))] [(.int (own_lk (-9223372036854775808 : Int64) (-9223372036854775808 : Int64)))])) := fun t k => pre87 t (st88.trans k)
      have F_90 := F_83
      rw [← hh88] at F_90
      have F_91 := F_84
      rw [← hh88] at F_91
      have Ex_92 := Ex_85
      rw [← hh88] at Ex_92
      have K_93 := K_86
      rw [← hh88] at K_93
      have pre94 : own_Go p e below (s₁.setTop (entryFrame m #[(.long p1), (.long p2), (.int p3)] maxLocals)) (T88.setTop (mkF m 173 #[.val (.long p1), .second, .val (.long p2), .second, .val (.int p3), .val (.ref b1), .val (.int (1 : Int32)), .val (.int (1 : Int32)), .val (.int (1 : Int32)), .val (.int (1 : Int32)), .val (.int (1 : Int32))] [(.int (1 : Int32))])) := fun t k => pre89 t (by
          show Steps p.tables e below (T88.setTop (mkF m 133 #[.val (.long p1), .second, .val (.long p2), .second, .val (.int p3), .val (.ref b1), .val (.int (1 : Int32)), .val (.int (1 : Int32)), .val (.int (1 : Int32)), .val (.int (1 : Int32)), .val (.int (1 : Int32))] [(.int (own_lk (-9223372036854775808 : Int64) (-9223372036854775808 : Int64)))])) _
          refine XS.ifNo X88.here hx rfl (hb hby at_133) rfl (XT.i0_ne_f (own_lkmin (-9223372036854775808 : Int64))) ?_
          show Steps p.tables e below (T88.setTop (mkF m 136 #[.val (.long p1), .second, .val (.long p2), .second, .val (.int p3), .val (.ref b1), .val (.int (1 : Int32)), .val (.int (1 : Int32)), .val (.int (1 : Int32)), .val (.int (1 : Int32)), .val (.int (1 : Int32))] [])) _
          refine XS.iconst X88.here hx rfl (hb hby at_136) ?_
          show Steps p.tables e below (T88.setTop (mkF m 137 #[.val (.long p1), .second, .val (.long p2), .second, .val (.int p3), .val (.ref b1), .val (.int (1 : Int32)), .val (.int (1 : Int32)), .val (.int (1 : Int32)), .val (.int (1 : Int32)), .val (.int (1 : Int32))] [(.int (1 : Int32))])) _
          refine XS.goto X88.here hx rfl (pc0 := 137) (pc' := 141) rfl (hb hby at_137) (by decide) (by decide) ?_
          show Steps p.tables e below (T88.setTop (mkF m 141 #[.val (.long p1), .second, .val (.long p2), .second, .val (.int p3), .val (.ref b1), .val (.int (1 : Int32)), .val (.int (1 : Int32)), .val (.int (1 : Int32)), .val (.int (1 : Int32)), .val (.int (1 : Int32))] [(.int (1 : Int32))])) _
          refine XS.istore X88.here hx rfl (hb hby at_141) rfl (l' := #[.val (.long p1), .second, .val (.long p2), .second, .val (.int p3), .val (.ref b1), .val (.int (1 : Int32)), .val (.int (1 : Int32)), .val (.int (1 : Int32)), .val (.int (1 : Int32)), .val (.int (1 : Int32))]) rfl ?_
          show Steps p.tables e below (T88.setTop (mkF m 143 #[.val (.long p1), .second, .val (.long p2), .second, .val (.int p3), .val (.ref b1), .val (.int (1 : Int32)), .val (.int (1 : Int32)), .val (.int (1 : Int32)), .val (.int (1 : Int32)), .val (.int (1 : Int32))] [])) _
          refine XS.iload X88.here hx rfl (hb hby at_143) rfl ?_
          show Steps p.tables e below (T88.setTop (mkF m 145 #[.val (.long p1), .second, .val (.long p2), .second, .val (.int p3), .val (.ref b1), .val (.int (1 : Int32)), .val (.int (1 : Int32)), .val (.int (1 : Int32)), .val (.int (1 : Int32)), .val (.int (1 : Int32))] [(.int (1 : Int32))])) _
          refine XS.ifNo X88.here hx rfl (hb hby at_145) rfl (XT.i0_eq_f (by decide)) ?_
          show Steps p.tables e below (T88.setTop (mkF m 148 #[.val (.long p1), .second, .val (.long p2), .second, .val (.int p3), .val (.ref b1), .val (.int (1 : Int32)), .val (.int (1 : Int32)), .val (.int (1 : Int32)), .val (.int (1 : Int32)), .val (.int (1 : Int32))] [])) _
          refine XS.iload X88.here hx rfl (hb hby at_148) rfl ?_
          show Steps p.tables e below (T88.setTop (mkF m 150 #[.val (.long p1), .second, .val (.long p2), .second, .val (.int p3), .val (.ref b1), .val (.int (1 : Int32)), .val (.int (1 : Int32)), .val (.int (1 : Int32)), .val (.int (1 : Int32)), .val (.int (1 : Int32))] [(.int (1 : Int32))])) _
          refine XS.ifNo X88.here hx rfl (hb hby at_150) rfl (XT.i0_eq_f (by decide)) ?_
          show Steps p.tables e below (T88.setTop (mkF m 153 #[.val (.long p1), .second, .val (.long p2), .second, .val (.int p3), .val (.ref b1), .val (.int (1 : Int32)), .val (.int (1 : Int32)), .val (.int (1 : Int32)), .val (.int (1 : Int32)), .val (.int (1 : Int32))] [])) _
          refine XS.iload X88.here hx rfl (hb hby at_153) rfl ?_
          show Steps p.tables e below (T88.setTop (mkF m 155 #[.val (.long p1), .second, .val (.long p2), .second, .val (.int p3), .val (.ref b1), .val (.int (1 : Int32)), .val (.int (1 : Int32)), .val (.int (1 : Int32)), .val (.int (1 : Int32)), .val (.int (1 : Int32))] [(.int (1 : Int32))])) _
          refine XS.ifNo X88.here hx rfl (hb hby at_155) rfl (XT.i0_eq_f (by decide)) ?_
          show Steps p.tables e below (T88.setTop (mkF m 158 #[.val (.long p1), .second, .val (.long p2), .second, .val (.int p3), .val (.ref b1), .val (.int (1 : Int32)), .val (.int (1 : Int32)), .val (.int (1 : Int32)), .val (.int (1 : Int32)), .val (.int (1 : Int32))] [])) _
          refine XS.iload X88.here hx rfl (hb hby at_158) rfl ?_
          show Steps p.tables e below (T88.setTop (mkF m 160 #[.val (.long p1), .second, .val (.long p2), .second, .val (.int p3), .val (.ref b1), .val (.int (1 : Int32)), .val (.int (1 : Int32)), .val (.int (1 : Int32)), .val (.int (1 : Int32)), .val (.int (1 : Int32))] [(.int (1 : Int32))])) _
          refine XS.ifNo X88.here hx rfl (hb hby at_160) rfl (XT.i0_eq_f (by decide)) ?_
          show Steps p.tables e below (T88.setTop (mkF m 163 #[.val (.long p1), .second, .val (.long p2), .second, .val (.int p3), .val (.ref b1), .val (.int (1 : Int32)), .val (.int (1 : Int32)), .val (.int (1 : Int32)), .val (.int (1 : Int32)), .val (.int (1 : Int32))] [])) _
          refine XS.iload X88.here hx rfl (hb hby at_163) rfl ?_
          show Steps p.tables e below (T88.setTop (mkF m 165 #[.val (.long p1), .second, .val (.long p2), .second, .val (.int p3), .val (.ref b1), .val (.int (1 : Int32)), .val (.int (1 : Int32)), .val (.int (1 : Int32)), .val (.int (1 : Int32)), .val (.int (1 : Int32))] [(.int (1 : Int32))])) _
          refine XS.ifNo X88.here hx rfl (hb hby at_165) rfl (XT.i0_eq_f (by decide)) ?_
          show Steps p.tables e below (T88.setTop (mkF m 168 #[.val (.long p1), .second, .val (.long p2), .second, .val (.int p3), .val (.ref b1), .val (.int (1 : Int32)), .val (.int (1 : Int32)), .val (.int (1 : Int32)), .val (.int (1 : Int32)), .val (.int (1 : Int32))] [])) _
          refine XS.iconst X88.here hx rfl (hb hby at_168) ?_
          show Steps p.tables e below (T88.setTop (mkF m 169 #[.val (.long p1), .second, .val (.long p2), .second, .val (.int p3), .val (.ref b1), .val (.int (1 : Int32)), .val (.int (1 : Int32)), .val (.int (1 : Int32)), .val (.int (1 : Int32)), .val (.int (1 : Int32))] [(.int (1 : Int32))])) _
          refine XS.goto X88.here hx rfl (pc0 := 169) (pc' := 173) rfl (hb hby at_169) (by decide) (by decide) ?_
          exact k)
      obtain ⟨fs, hr, hrun, hended, hW, hsame⟩ := X88.leave (v := some (.int (1 : Int32))) (fun h => by rw [Bd.returns] at h; cases h)
      refine ⟨_, _, pre94 _ ?_, hrun, hended, _, _, rfl, ?_, ⟨_, rfl⟩, hW, hsame.mono (by decide) (by decide)⟩
      · show Steps p.tables e below (T88.setTop (mkF m 173 #[.val (.long p1), .second, .val (.long p2), .second, .val (.int p3), .val (.ref b1), .val (.int (1 : Int32)), .val (.int (1 : Int32)), .val (.int (1 : Int32)), .val (.int (1 : Int32)), .val (.int (1 : Int32))] [(.int (1 : Int32))])) _
        exact retN X88 hx (t := .boolean) Bd.returns (by simp) (hb hby at_173) hr
      · show Q0 Z p1 p2 p3 h0 n0 _ T88.heap _
        exact ⟨rfl, N88⟩
set_option maxRecDepth 65536 in
set_option maxHeartbeats 40000000 in
theorem comes_1 {Post : Tables → Env → Array Value → State → Outcome → State → Prop} (hpost : ∀ tb e args s v u, (limb_1_1.after args s (.returned v) u = true ∧ limb_1_2.after args s (.returned v) u = true ∧ True) → FrameEnd s (.returned v) u (Jvm.fieldLocs frame_1_writes args s ++ Jvm.arrayLocs frame_1_arrays args s ++ Jvm.staticLocs frame_1_statics s) 16 128 → Post tb e args s (.returned v) u) :
    ArmFor flags0 classFile x code maxLocals ret World_1 tables_1 room_1 Calls_1 rest_1 Pre_1 Post := by
  intro l hfl _ _ p e ha hc hk s m args below hf hA hF happ hP
  obtain ⟨hcalls, hrest, hpre⟩ := hP
  obtain ⟨-, -, -, hnamed, -, -, -, hat⟩ := (Spec.applies_iff hf).mp happ
  obtain ⟨hg, hn⟩ := and_e (Cond.before_iff.mp (show (Jvm.Cond.and given_1 narrow_1).before args s = true from hpre))
  obtain ⟨gc, q0⟩ := and_e hg
  obtain ⟨ga0, q1⟩ := and_e q0
  obtain ⟨ga1, q2⟩ := and_e q1
  have ga2 := q2
  obtain ⟨w0, w1, w2, rfl⟩ : ∃ w0 w1 w2 : Value, args = #[w0, w1, w2] := by
    have hs : args.size = 3 := by simpa [Cond.value, given_1] using gc
    obtain ⟨L⟩ := args
    match L, hs with
    | [w0, w1, w2], _ => exact ⟨w0, w1, w2, rfl⟩
  have hw := fun d (hd : d ∈ tables_1) => atoms_spec (ws := Jvm.Cond.code x code maxLocals ret :: tables_1) hat d (List.mem_cons_of_mem _ hd)
  obtain ⟨i0, ei0⟩ := isL_v ga0
  obtain rfl : w0 = (.long i0) := Option.some.inj ei0
  obtain ⟨i1, ei1⟩ := isL_v ga1
  obtain rfl : w1 = (.long i1) := Option.some.inj ei1
  obtain ⟨i2, ei2⟩ := is_v ga2
  obtain rfl : w2 = (.int i2) := Option.some.inj ei2
  obtain ⟨n, o, h1, h2, h3, _, L, rfl, ⟨rfl, N⟩, hq⟩ := rm0 l s _ hw tables_1 i0 i1 i2 s.heap s.heap.size (Nat.le_refl _)  p e ha hc hk s m _ below hf ((Spec.applies_iff_loose hf).mp happ).1 ⟨rfl, State.Warmed39.refl s, rfl⟩ trivial
  refine ⟨n, _, h1, h2, h3, hpost _ _ _ _ _ _ ⟨Cond.after_iff.mpr rfl, Cond.after_iff.mpr (eq_i res_at (Term.int_eval (1)) rfl), trivial⟩ ⟨hq.1, hq.2.1, (hq.2.2.sift fun y hy => Or.inr (N y hy)).mono (by decide) (by decide)⟩⟩
theorem main_1_1 : Claimed_1_1 := comes_1 fun _ _ _ _ _ _ h hF => ⟨h.1, hF⟩
theorem main_1_2 : Claimed_1_2 := comes_1 fun _ _ _ _ _ _ h hF => ⟨h.2.1, hF⟩
end Jvm.Pilot.@@N@@
namespace Jvm.Pilot.@@N@@
open Jvm Jvm.ClassFile Sem Op Lib Jvm.Free Jvm.Stand Jvm.Pilot.@@N@@.Jvm.D
/-! MADE BY PROGRAM (witnessworld.py) out of the Statement's table words and the real class files: 17 classes; the members and pool entries that the words name. The judged class is class 1, her method 1. -/
namespace start1
open Jvm.ClassFile
def u (s : String) : CpInfo := .utf8 (stringToUtf16 s)
/-- a pool by its gaps: so many unusable entries, then the entry; so many at the end -/
def gap : Nat → List CpInfo → List CpInfo
  | 0, r => r
  | n + 1, r => .unusable :: gap n r
def poolList (es : List (Nat × CpInfo)) (last : Nat) : List CpInfo := es.foldr (fun e r => gap e.1 (e.2 :: r)) (gap last [])
def pool (es : List (Nat × CpInfo)) (last : Nat) : Array CpInfo := ⟨poolList es last⟩
def fileOf (pool : Array CpInfo) (this : Nat) (attrs : Array Attribute := #[]) (ms : Array MethodInfo := #[]) (fl : Nat := 33) (sup : Nat := 0) (ifs : Array Nat := #[]) (fds : Array FieldInfo := #[]) : ClassFile where
  minorVersion := 0
  majorVersion := 65
  constantPool := pool
  accessFlags := fl
  thisClass := this
  superClass := sup
  interfaces := ifs
  fields := fds
  methods := ms
  attributes := attrs
def plain (name : String) (sup : Option ClassId) : Class where
  name := name
  kind := .ordinary
  loader := none
  accessFlags := 33
  super := sup
  interfaces := #[]
  cf := none
  fields := #[]
  methods := #[]
  instanceTypes := #[]
  staticTypes := #[]
  resolved := #[]
  callSites := []
  init := .initialized
  statics := none
  mirror := none

def pool0 : Array CpInfo := pool [(5, u "<init>"), (0, u "()V"), (1, .class_ 10), (1, u "java/lang/Object")] 113

def k0c0 : Code := { maxStack := 0, maxLocals := 1, code := object_method_1_code, exceptionTable := #[], attributes := #[] }
def k0m0 : Method := { name := "<init>", desc := "()V", sig := { parameters := [], returnType := none }, accessFlags := 1, code := some k0c0 }
/-- java/lang/Object -/
def k0 : Class := { plain "java/lang/Object" none with
  accessFlags := 33
  interfaces := #[]
  cf := some (fileOf pool0 8 #[] #[{ accessFlags := 1, nameIndex := 5, descriptorIndex := 6, attributes := #[] }] 33 0 #[] #[])
  fields := #[]
  methods := #[k0m0]
  instanceTypes := #[]
  staticTypes := #[]
  resolved := Array.replicate 124 none
  statics := none }

def pool1 : Array CpInfo := pool [(2, .class_ 4), (0, .nameAndType 5 6), (0, u "java/lang/Object"), (0, u "<init>"), (0, u "()V"), (0, .class_ 8), (0, u "com/example/tallygate/tallygate/engine/KeyState"), (0, .methodref 7 3), (0, .methodref 7 11), (0, .nameAndType 12 13), (0, u "isLocked"), (0, u "(J)Z"), (0, .methodref 7 15), (0, .nameAndType 16 17), (0, u "lock"), (0, u "(JLcom/example/tallygate/tallygate/engine/Admission;)V"), (2, .long 9223372036854775808), (1, .methodref 7 23), (0, .nameAndType 24 6), (0, u "unlock"), (0, .class_ 26), (0, u "com/example/tallygate/tallygate/engine/KeyStateIsLockedPinLaw"), (2, u "law"), (0, u "(JJI)Z")] 3

def k1m0 : Method := { name := "<init>", desc := "()V", sig := { parameters := [], returnType := none }, accessFlags := 1, code := none }
def k1c1 : Code := { maxStack := 5, maxLocals := 11, code := code, exceptionTable := #[], attributes := #[] }
def k1m1 : Method := { name := "law", desc := "(JJI)Z", sig := { parameters := [.long, .long, .int], returnType := some .boolean }, accessFlags := 9, code := some k1c1 }
/-- com/example/tallygate/tallygate/engine/KeyStateIsLockedPinLaw -/
def k1 : Class := { plain "com/example/tallygate/tallygate/engine/KeyStateIsLockedPinLaw" (some 0) with
  accessFlags := 49
  interfaces := #[]
  cf := some (fileOf pool1 25 #[] #[{ accessFlags := 1, nameIndex := 5, descriptorIndex := 6, attributes := #[] }, { accessFlags := 9, nameIndex := 29, descriptorIndex := 30, attributes := #[] }] 49 2 #[] #[])
  fields := #[]
  methods := #[k1m0, k1m1]
  instanceTypes := #[]
  staticTypes := #[]
  resolved := Array.replicate 34 none
  statics := none }

def pool2 : Array CpInfo := pool [(1, .methodref 2 3), (0, .class_ 4), (0, .nameAndType 5 6), (0, u "java/lang/Object"), (0, u "<init>"), (0, u "()V"), (0, .class_ 8), (0, u "java/util/ArrayDeque"), (0, .methodref 7 3), (0, .fieldref 11 12), (0, .class_ 13), (0, .nameAndType 14 15), (0, u "com/example/tallygate/tallygate/engine/KeyState"), (0, u "failures"), (0, u "Ljava/util/ArrayDeque;"), (2, .long 9223372036854775808), (1, .fieldref 11 21), (0, .nameAndType 22 23), (0, u "lockEnd"), (0, u "J"), (21, .fieldref 11 46), (0, .nameAndType 47 48), (0, u "locker"), (0, u "Lcom/example/tallygate/tallygate/engine/Admission;"), (16, u "isLocked"), (0, u "(J)Z"), (21, u "unlock"), (15, u "lock"), (0, u "(JLcom/example/tallygate/tallygate/engine/Admission;)V")] 7

def k2c0 : Code := { maxStack := 3, maxLocals := 1, code := prog_9_method_1_code, exceptionTable := #[], attributes := #[] }
def k2m0 : Method := { name := "<init>", desc := "()V", sig := { parameters := [], returnType := none }, accessFlags := 0, code := some k2c0 }
def k2c1 : Code := { maxStack := 4, maxLocals := 3, code := prog_9_method_3_code, exceptionTable := #[], attributes := #[] }
def k2m1 : Method := { name := "isLocked", desc := "(J)Z", sig := { parameters := [.long], returnType := some .boolean }, accessFlags := 0, code := some k2c1 }
def k2c2 : Code := { maxStack := 3, maxLocals := 4, code := prog_9_method_10_code, exceptionTable := #[], attributes := #[] }
def k2m2 : Method := { name := "lock", desc := "(JLcom/example/tallygate/tallygate/engine/Admission;)V", sig := { parameters := [.long, (.object "com/example/tallygate/tallygate/engine/Admission")], returnType := none }, accessFlags := 0, code := some k2c2 }
def k2c3 : Code := { maxStack := 3, maxLocals := 1, code := prog_9_method_14_code, exceptionTable := #[], attributes := #[] }
def k2m3 : Method := { name := "unlock", desc := "()V", sig := { parameters := [], returnType := none }, accessFlags := 0, code := some k2c3 }
/-- com/example/tallygate/tallygate/engine/KeyState -/
def k2 : Class := { plain "com/example/tallygate/tallygate/engine/KeyState" (some 0) with
  accessFlags := 48
  interfaces := #[]
  cf := some (fileOf pool2 11 #[] #[{ accessFlags := 0, nameIndex := 5, descriptorIndex := 6, attributes := #[] }, { accessFlags := 0, nameIndex := 65, descriptorIndex := 66, attributes := #[] }, { accessFlags := 0, nameIndex := 104, descriptorIndex := 105, attributes := #[] }, { accessFlags := 0, nameIndex := 88, descriptorIndex := 6, attributes := #[] }] 48 2 #[] #[{ accessFlags := 18, nameIndex := 14, descriptorIndex := 15, attributes := #[] }, { accessFlags := 2, nameIndex := 22, descriptorIndex := 23, attributes := #[] }, { accessFlags := 2, nameIndex := 47, descriptorIndex := 48, attributes := #[] }])
  fields := #[{ name := "failures", type := (.object "java/util/ArrayDeque"), accessFlags := 18, slot := 0, constantValue := 0 }, { name := "lockEnd", type := .long, accessFlags := 2, slot := 1, constantValue := 0 }, { name := "locker", type := (.object "com/example/tallygate/tallygate/engine/Admission"), accessFlags := 2, slot := 2, constantValue := 0 }]
  methods := #[k2m0, k2m1, k2m2, k2m3]
  instanceTypes := #[(.object "java/util/ArrayDeque"), .long, (.object "com/example/tallygate/tallygate/engine/Admission")]
  staticTypes := #[]
  resolved := Array.replicate 113 none
  statics := none }

def pool3 : Array CpInfo := pool [(8, .class_ 10), (1, u "java/lang/Iterable"), (24, .class_ 36), (0, u "java/lang/Object")] 25

/-- java/lang/Iterable -/
def k3 : Class := { plain "java/lang/Iterable" (some 0) with
  accessFlags := 1537
  interfaces := #[]
  cf := some (fileOf pool3 8 #[] #[] 1537 35 #[] #[])
  fields := #[]
  methods := #[]
  instanceTypes := #[]
  staticTypes := #[]
  resolved := Array.replicate 62 none
  statics := none }

def pool4 : Array CpInfo := pool [(10, .class_ 12), (1, u "java/util/Collection"), (47, .class_ 61), (0, u "java/lang/Object"), (0, .class_ 63), (0, u "java/lang/Iterable")] 51

/-- java/util/Collection -/
def k4 : Class := { plain "java/util/Collection" (some 0) with
  accessFlags := 1537
  interfaces := #[3]
  cf := some (fileOf pool4 10 #[] #[] 1537 60 #[62] #[])
  fields := #[]
  methods := #[]
  instanceTypes := #[]
  staticTypes := #[]
  resolved := Array.replicate 115 none
  statics := none }

def pool5 : Array CpInfo := pool [(1, .methodref 2 3), (0, .class_ 4), (0, .nameAndType 5 6), (0, u "java/lang/Object"), (0, u "<init>"), (0, u "()V"), (1, .class_ 10), (1, u "java/util/AbstractCollection"), (66, .class_ 78), (0, u "java/util/Collection")] 81

def k5c0 : Code := { maxStack := 1, maxLocals := 1, code := jdk_22_method_1_code, exceptionTable := #[], attributes := #[] }
def k5m0 : Method := { name := "<init>", desc := "()V", sig := { parameters := [], returnType := none }, accessFlags := 4, code := some k5c0 }
/-- java/util/AbstractCollection -/
def k5 : Class := { plain "java/util/AbstractCollection" (some 0) with
  accessFlags := 1057
  interfaces := #[4]
  cf := some (fileOf pool5 8 #[] #[{ accessFlags := 4, nameIndex := 5, descriptorIndex := 6, attributes := #[] }] 1057 2 #[77] #[])
  fields := #[]
  methods := #[k5m0]
  instanceTypes := #[]
  staticTypes := #[]
  resolved := Array.replicate 160 none
  statics := none }

def pool6 : Array CpInfo := pool [(1, .class_ 2), (0, u "java/util/Queue"), (0, .class_ 4), (0, u "java/lang/Object"), (0, .class_ 6), (0, u "java/util/Collection")] 14

/-- java/util/Queue -/
def k6 : Class := { plain "java/util/Queue" (some 0) with
  accessFlags := 1537
  interfaces := #[4]
  cf := some (fileOf pool6 1 #[] #[] 1537 3 #[5] #[])
  fields := #[]
  methods := #[]
  instanceTypes := #[]
  staticTypes := #[]
  resolved := Array.replicate 21 none
  statics := none }

def pool7 : Array CpInfo := pool [(8, .class_ 10), (1, u "java/util/SequencedCollection"), (15, .class_ 27), (0, u "java/lang/Object"), (0, .class_ 29), (0, u "java/util/Collection")] 27

/-- java/util/SequencedCollection -/
def k7 : Class := { plain "java/util/SequencedCollection" (some 0) with
  accessFlags := 1537
  interfaces := #[4]
  cf := some (fileOf pool7 8 #[] #[] 1537 26 #[28] #[])
  fields := #[]
  methods := #[]
  instanceTypes := #[]
  staticTypes := #[]
  resolved := Array.replicate 57 none
  statics := none }

def pool8 : Array CpInfo := pool [(8, .class_ 10), (1, u "java/util/Deque"), (2, .class_ 14), (0, u "java/lang/Object"), (0, .class_ 16), (0, u "java/util/Queue"), (0, .class_ 18), (0, u "java/util/SequencedCollection")] 51

/-- java/util/Deque -/
def k8 : Class := { plain "java/util/Deque" (some 0) with
  accessFlags := 1537
  interfaces := #[6, 7]
  cf := some (fileOf pool8 8 #[] #[] 1537 13 #[15, 17] #[])
  fields := #[]
  methods := #[]
  instanceTypes := #[]
  staticTypes := #[]
  resolved := Array.replicate 70 none
  statics := none }

def pool9 : Array CpInfo := pool [(1, .class_ 2), (0, u "java/lang/Cloneable"), (0, .class_ 4), (0, u "java/lang/Object")] 2

/-- java/lang/Cloneable -/
def k9 : Class := { plain "java/lang/Cloneable" (some 0) with
  accessFlags := 1537
  interfaces := #[]
  cf := some (fileOf pool9 1 #[] #[] 1537 3 #[] #[])
  fields := #[]
  methods := #[]
  instanceTypes := #[]
  staticTypes := #[]
  resolved := Array.replicate 7 none
  statics := none }

def pool10 : Array CpInfo := pool [(1, .class_ 2), (0, u "java/io/Serializable"), (0, .class_ 4), (0, u "java/lang/Object")] 2

/-- java/io/Serializable -/
def k10 : Class := { plain "java/io/Serializable" (some 0) with
  accessFlags := 1537
  interfaces := #[]
  cf := some (fileOf pool10 1 #[] #[] 1537 3 #[] #[])
  fields := #[]
  methods := #[]
  instanceTypes := #[]
  staticTypes := #[]
  resolved := Array.replicate 7 none
  statics := none }

def pool11 : Array CpInfo := pool [(3, .fieldref 4 5), (0, .class_ 6), (0, .nameAndType 7 8), (0, u "java/util/ArrayDeque"), (0, u "elements"), (0, u "[Ljava/lang/Object;"), (13, u "tail"), (0, u "I"), (2, u "head"), (12, u "<init>"), (2, .methodref 43 44), (0, .class_ 45), (0, .nameAndType 39 46), (0, u "java/util/AbstractCollection"), (0, u "()V"), (0, .class_ 48), (0, u "java/lang/Object"), (82, .class_ 132), (0, u "java/util/ArrayDeque$DeqIterator"), (3, .class_ 137), (0, u "java/util/ArrayDeque$DescendingIterator"), (1, .class_ 140), (0, u "java/util/ArrayDeque$DeqSpliterator"), (137, .class_ 279), (0, u "java/util/Deque"), (0, .class_ 281), (0, u "java/lang/Cloneable"), (0, .class_ 283), (0, u "java/io/Serializable"), (0, u "MAX_ARRAY_SIZE"), (1, u "serialVersionUID"), (0, u "J")] 150

def k11c0 : Code := { maxStack := 2, maxLocals := 1, code := jdk_21_method_3_code, exceptionTable := #[], attributes := #[] }
def k11m0 : Method := { name := "<init>", desc := "()V", sig := { parameters := [], returnType := none }, accessFlags := 1, code := some k11c0 }
/-- java/util/ArrayDeque -/
def k11 : Class := { plain "java/util/ArrayDeque" (some 5) with
  accessFlags := 33
  interfaces := #[8, 9, 10]
  cf := some (fileOf pool11 4 #[.nestMembers #[139, 136, 131]] #[{ accessFlags := 1, nameIndex := 39, descriptorIndex := 46, attributes := #[] }] 33 43 #[278, 280, 282] #[{ accessFlags := 128, nameIndex := 7, descriptorIndex := 8, attributes := #[] }, { accessFlags := 128, nameIndex := 26, descriptorIndex := 23, attributes := #[] }, { accessFlags := 128, nameIndex := 22, descriptorIndex := 23, attributes := #[] }, { accessFlags := 26, nameIndex := 284, descriptorIndex := 23, attributes := #[] }, { accessFlags := 26, nameIndex := 286, descriptorIndex := 287, attributes := #[] }])
  fields := #[{ name := "elements", type := (.array (.object "java/lang/Object")), accessFlags := 128, slot := 0, constantValue := 0 }, { name := "head", type := .int, accessFlags := 128, slot := 1, constantValue := 0 }, { name := "tail", type := .int, accessFlags := 128, slot := 2, constantValue := 0 }, { name := "MAX_ARRAY_SIZE", type := .int, accessFlags := 26, slot := 0, constantValue := 0 }, { name := "serialVersionUID", type := .long, accessFlags := 26, slot := 1, constantValue := 0 }]
  methods := #[k11m0]
  instanceTypes := #[(.array (.object "java/lang/Object")), .int, .int]
  staticTypes := #[.int, .long]
  resolved := Array.replicate 438 none
  statics := none }

/-- the primitive byte -/
def k12 : Class := { plain "byte" none with kind := .primitive 'B', accessFlags := 0x411 }
/-- [B -/
def k13 : Class := { plain "[B" (some 0) with kind := .array 12 .byte, interfaces := #[9, 10], accessFlags := 1041 }

/-- the primitive int -/
def k14 : Class := { plain "int" none with kind := .primitive 'I', accessFlags := 0x411 }
/-- [I -/
def k15 : Class := { plain "[I" (some 0) with kind := .array 14 .int, interfaces := #[9, 10], accessFlags := 1041 }

/-- [Ljava/lang/Object; -/
def k16 : Class := { plain "[Ljava/lang/Object;" (some 0) with kind := .array 0 (.object "java/lang/Object"), interfaces := #[9, 10], accessFlags := 1041 }

def heap : Heap := #[]
def classes : Array Class := #[k0, k1, k2, k3, k4, k5, k6, k7, k8, k9, k10, k11, k12, k13, k14, k15, k16]
def interned : List (Array UInt16 × Addr) := []
def slotsUsed : Nat := 0
def theMethod : MethodId := ⟨1, 1⟩
def args0 : Array Value := #[.long 5, .long 6, .int 7]
def aboutOver (below : List Frame) : State where
  vm := { classes := classes, interned := interned.toArray }
  heap := heap
  slotsUsed := slotsUsed
  threads := #[{ frames := .invoking theMethod args0 :: below }]
def below0 : List Frame := [.native { method := ⟨0, 0⟩, args := #[] }]
def about1 : State := aboutOver below0
def p0 : Program := .bare "" "" ""
def e0 : Env := launch0.env 0 0 0
theorem w_frames : about1.frames = Frame.invoking theMethod args0 :: below0 := rfl
set_option maxRecDepth 65536 in
theorem w_args : argsFit about1.vm theMethod args0 = true := by decide +kernel
set_option maxRecDepth 65536 in
theorem w_heap : heapFits about1 = true := by decide +kernel
set_option maxRecDepth 65536 in
theorem w_runnable : about1.curStatus? = some .runnable := by decide +kernel
set_option maxRecDepth 65536 in
theorem w_alone : about1.alone = true := by decide +kernel
set_option maxRecDepth 65536 in
theorem w_named : about1.methodNamed? x = some theMethod := by decide +kernel
set_option maxRecDepth 65536 in
theorem w_hears : about1.hears theMethod below0 = true := by decide +kernel
set_option maxRecDepth 65536 in
theorem w_ripe : about1.ripe theMethod args0 below0 = true := by decide +kernel
theorem w_running : about1.status = .running := rfl
set_option maxRecDepth 65536 in
theorem w_room : about1.hasRoom e0.platform room_1 = true :=
  launch0.hasRoom_least _ room_1 (by decide +kernel) (by decide +kernel) (by decide +kernel) (by decide +kernel) (by decide +kernel) (by decide +kernel)
theorem allAtoms_all (ts : List Jvm.Cond) (a : Array Jvm.Value) (st : Jvm.State) : (allAtoms ts).before a st = ts.all (fun c => c.before a st) := by
  induction ts with
  | nil => rfl
  | cons c t ih =>
    show (Jvm.Cond.and c (allAtoms t)).before a st = _
    rw [Jvm.Cond.before_and, ih, List.all_cons]
def words1 : List Jvm.Cond := Jvm.Cond.code x code maxLocals ret :: tables_1
/-- a 'code' word, met by the world's own term for the bytes: nothing is compared byte by byte -/
theorem code_word {y : MethodName} {bytes : ByteArray} {mx : Nat} {rt : Option FieldType} {a : Array Value} {s : State} {m : MethodId} {meth : Method} {c : Code} (h1 : s.methodNamed? y = some m) (h2 : s.vm.method? m = some meth) (h3 : meth.code = some c) (h4 : c.code = bytes)
    (h5 : (c.maxLocals == mx && c.exceptionTable.isEmpty && decide (c.maxStack ≤ mostOperands) && decide (meth.sig.returnType = rt) && !meth.locks && decide (parseMethodDescriptor y.desc = some meth.sig)) = true) : (Jvm.Cond.code y bytes mx rt).before a s = true := by
  simp only [Bool.and_eq_true, beq_iff_eq, Bool.not_eq_true', decide_eq_true_eq] at h5
  obtain ⟨⟨⟨⟨⟨g1, g2⟩, g3⟩, g4⟩, g5⟩, g6⟩ := h5
  simp [Cond.before, Cond.holds, Cond.value, h1, h2, h3, h4, g1, g2, g3, g4, g5, g6]
def isCode : Jvm.Cond → Bool
  | .code _ _ _ _ => true
  | _ => false
theorem all_split {L : List Jvm.Cond} {P : Jvm.Cond → Bool} (h1 : L.all (fun c => isCode c || P c) = true) (h2 : ∀ c ∈ L.filter isCode, P c = true) : L.all P = true := by
  refine List.all_eq_true.mpr fun c hc => ?_
  have h := List.all_eq_true.mp h1 c hc
  rcases Bool.eq_false_or_eq_true (isCode c) with hi | hi
  · exact h2 c (List.mem_filter.mpr ⟨hc, hi⟩)
  · simpa [hi] using h
set_option maxRecDepth 65536 in
theorem w_c0 : (Jvm.Cond.code x code maxLocals ret).before args0 about1 = true := code_word (m := ⟨1, 1⟩) (meth := k1m1) (c := k1c1) (by decide +kernel) rfl rfl rfl (by decide +kernel)
set_option maxRecDepth 65536 in
theorem w_c1 : (Jvm.Cond.code ({ cls := "com/example/tallygate/tallygate/engine/KeyState", name := "<init>", desc := "()V" } : Jvm.MethodName) prog_9_method_1_code (1 : Nat) (Option.none : Option Jvm.ClassFile.FieldType)).before args0 about1 = true := code_word (m := ⟨2, 0⟩) (meth := k2m0) (c := k2c0) (by decide +kernel) rfl rfl rfl (by decide +kernel)
set_option maxRecDepth 65536 in
theorem w_c2 : (Jvm.Cond.code ({ cls := "java/lang/Object", name := "<init>", desc := "()V" } : Jvm.MethodName) object_method_1_code (1 : Nat) (Option.none : Option Jvm.ClassFile.FieldType)).before args0 about1 = true := code_word (m := ⟨0, 0⟩) (meth := k0m0) (c := k0c0) (by decide +kernel) rfl rfl rfl (by decide +kernel)
set_option maxRecDepth 65536 in
theorem w_c3 : (Jvm.Cond.code ({ cls := "java/util/ArrayDeque", name := "<init>", desc := "()V" } : Jvm.MethodName) jdk_21_method_3_code (1 : Nat) (Option.none : Option Jvm.ClassFile.FieldType)).before args0 about1 = true := code_word (m := ⟨11, 0⟩) (meth := k11m0) (c := k11c0) (by decide +kernel) rfl rfl rfl (by decide +kernel)
set_option maxRecDepth 65536 in
theorem w_c4 : (Jvm.Cond.code ({ cls := "java/util/AbstractCollection", name := "<init>", desc := "()V" } : Jvm.MethodName) jdk_22_method_1_code (1 : Nat) (Option.none : Option Jvm.ClassFile.FieldType)).before args0 about1 = true := code_word (m := ⟨5, 0⟩) (meth := k5m0) (c := k5c0) (by decide +kernel) rfl rfl rfl (by decide +kernel)
set_option maxRecDepth 65536 in
theorem w_c5 : (Jvm.Cond.code ({ cls := "com/example/tallygate/tallygate/engine/KeyState", name := "isLocked", desc := "(J)Z" } : Jvm.MethodName) prog_9_method_3_code (3 : Nat) (Option.some Jvm.ClassFile.FieldType.boolean)).before args0 about1 = true := code_word (m := ⟨2, 1⟩) (meth := k2m1) (c := k2c1) (by decide +kernel) rfl rfl rfl (by decide +kernel)
set_option maxRecDepth 65536 in
theorem w_c6 : (Jvm.Cond.code ({ cls := "com/example/tallygate/tallygate/engine/KeyState", name := "lock", desc := "(JLcom/example/tallygate/tallygate/engine/Admission;)V" } : Jvm.MethodName) prog_9_method_10_code (4 : Nat) (Option.none : Option Jvm.ClassFile.FieldType)).before args0 about1 = true := code_word (m := ⟨2, 2⟩) (meth := k2m2) (c := k2c2) (by decide +kernel) rfl rfl rfl (by decide +kernel)
set_option maxRecDepth 65536 in
theorem w_c7 : (Jvm.Cond.code ({ cls := "com/example/tallygate/tallygate/engine/KeyState", name := "unlock", desc := "()V" } : Jvm.MethodName) prog_9_method_14_code (1 : Nat) (Option.none : Option Jvm.ClassFile.FieldType)).before args0 about1 = true := code_word (m := ⟨2, 3⟩) (meth := k2m3) (c := k2c3) (by decide +kernel) rfl rfl rfl (by decide +kernel)
def codes1 : List Jvm.Cond := [Jvm.Cond.code x code maxLocals ret, Jvm.Cond.code ({ cls := "com/example/tallygate/tallygate/engine/KeyState", name := "<init>", desc := "()V" } : Jvm.MethodName) prog_9_method_1_code (1 : Nat) (Option.none : Option Jvm.ClassFile.FieldType), Jvm.Cond.code ({ cls := "java/lang/Object", name := "<init>", desc := "()V" } : Jvm.MethodName) object_method_1_code (1 : Nat) (Option.none : Option Jvm.ClassFile.FieldType), Jvm.Cond.code ({ cls := "java/util/ArrayDeque", name := "<init>", desc := "()V" } : Jvm.MethodName) jdk_21_method_3_code (1 : Nat) (Option.none : Option Jvm.ClassFile.FieldType), Jvm.Cond.code ({ cls := "java/util/AbstractCollection", name := "<init>", desc := "()V" } : Jvm.MethodName) jdk_22_method_1_code (1 : Nat) (Option.none : Option Jvm.ClassFile.FieldType), Jvm.Cond.code ({ cls := "com/example/tallygate/tallygate/engine/KeyState", name := "isLocked", desc := "(J)Z" } : Jvm.MethodName) prog_9_method_3_code (3 : Nat) (Option.some Jvm.ClassFile.FieldType.boolean), Jvm.Cond.code ({ cls := "com/example/tallygate/tallygate/engine/KeyState", name := "lock", desc := "(JLcom/example/tallygate/tallygate/engine/Admission;)V" } : Jvm.MethodName) prog_9_method_10_code (4 : Nat) (Option.none : Option Jvm.ClassFile.FieldType), Jvm.Cond.code ({ cls := "com/example/tallygate/tallygate/engine/KeyState", name := "unlock", desc := "()V" } : Jvm.MethodName) prog_9_method_14_code (1 : Nat) (Option.none : Option Jvm.ClassFile.FieldType)]
set_option maxRecDepth 65536 in
theorem codes_eq : words1.filter isCode = codes1 := rfl
theorem w_codes : ∀ c ∈ words1.filter isCode, c.before args0 about1 = true := by
  rw [codes_eq]
  intro c hc
  simp only [codes1, List.mem_cons, List.not_mem_nil, or_false] at hc
  rcases hc with rfl | rfl | rfl | rfl | rfl | rfl | rfl | rfl
  · exact w_c0
  · exact w_c1
  · exact w_c2
  · exact w_c3
  · exact w_c4
  · exact w_c5
  · exact w_c6
  · exact w_c7
set_option maxRecDepth 65536 in
theorem w_t1 : (words1.take 24).all (fun c => isCode c || c.before args0 about1) = true := by decide +kernel
set_option maxRecDepth 65536 in
theorem w_t2 : ((words1.drop 24).take 24).all (fun c => isCode c || c.before args0 about1) = true := by decide +kernel
set_option maxRecDepth 65536 in
theorem w_t3 : ((words1.drop 24).drop 24).all (fun c => isCode c || c.before args0 about1) = true := by decide +kernel
theorem w_tables : (allAtoms (Jvm.Cond.code x code maxLocals ret :: tables_1)).before args0 about1 = true := by
  rw [allAtoms_all]
  show words1.all (fun c => c.before args0 about1) = true
  refine all_split ?_ w_codes
  rw [← List.take_append_drop 24 words1, List.all_append, w_t1, ← List.take_append_drop 24 (words1.drop 24), List.all_append, w_t2, w_t3]
  rfl
set_option maxRecDepth 65536 in
theorem w_case : (Jvm.Cond.and given_1 narrow_1).before args0 about1 = true := by decide +kernel
theorem w_applies : (headSpec (Jvm.Cond.code x code maxLocals ret :: tables_1) room_1).applies x e0.platform about1 = true :=
  (Spec.applies_iff w_frames).mpr ⟨w_running, w_runnable, w_alone, w_named, w_hears, w_ripe, w_room, w_tables⟩
theorem atStart : AtStart classFile x code maxLocals ret World_1 tables_1 room_1 Calls_1 rest_1 Pre_1 launch0 p0 e0 about1 theMethod args0 below0 :=
  ⟨lists_1, trivial, launch0.admits_env _ _ _, launch0.least_env, fairChoices_fair.cas, fairChoices_fair.clock, w_frames, w_args, w_heap, w_applies, trivial, trivial, w_case⟩
end start1
theorem witness_1 : WitnessClaimed_1 := ⟨start1.p0, start1.e0, start1.about1, start1.theMethod, start1.args0, start1.below0, start1.atStart⟩
end Jvm.Pilot.@@N@@
