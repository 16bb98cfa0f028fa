import JvmDerived
import JvmDerived.Pilot.@@N@@Statement
import JvmDerived.Pilot.@@N@@Code
set_option linter.unusedVariables false
set_option linter.unusedSimpArgs false
namespace Jvm.RoadKit
open Sem ClassFile Op Lib Jvm.Stand Jvm.Free Jvm.LawKit
section New
variable {p : Program} {l : Launch} {e : Env} {R : Room} {s : State} {m : MethodId} {args : Array Value} {below : List Frame} {meth : Method} {c : Code} {T : State} {locs : List Loc} {cells slots : Nat}
theorem retI (X : Stand p l e R s m args below meth c T locs cells slots) (hx : p.tables.exec = Jvm.exec) {pc : Nat} {Ls : Array Slot} {z : Int32} {rest : List Value} (hret : meth.sig.returnType = some .int) (hd : decode c.code pc = .ok (.ireturn, 1)) {fs : List Frame}
    (hl : ∀ (f : JFrame) (acts : List Action), f.method = m → f.locked = none → f.entered = [] → (doReturn e (T.setTop f) acts (some (.int z))).1 = T.setFrames fs) : Steps p.tables e below (T.setTop (mkF m pc Ls (.int z :: rest))) (T.setFrames fs) := by
  have hm' : T.vm.method? m = some meth := X.method'
  have hn : narrow .int (.int z) = .int z := rfl
  show Steps p.tables e below (T.setTop { method := m, pc := pc, locals := Ls, stack := _ :: rest, locked := none }) _
  jvm_step X.here [X.here.top, hx, hd, hm', hret, hn]
  first | (intro acts; rw [hl _ acts rfl rfl rfl]) | rw [hl _ _ rfl rfl rfl]
  exact Steps.refl _
end New
end Jvm.RoadKit
namespace Jvm.Pilot.@@N@@
open Jvm Jvm.ClassFile Sem Op Lib Jvm.Free Jvm.Stand Jvm.LawKit Jvm.RoadKit Bundle Jvm.Pilot.@@N@@.Jvm.D
def own_Go (p : Program) (e : Env) (below : List Frame) (A B : State) : Prop := ∀ t, Steps p.tables e below B t → Steps p.tables e below A t
/-- an array of ints, bytes or booleans at a: its kind, its length, its values -/
def own_A (Z : State) (h : Heap) (a : Addr) (ty : FieldType) (n : Int32) (f : Nat → Int32) : Prop := ∃ c : Cell, Arr Z h a c ty ∧ c.slots.size = n.toNatClampNeg ∧ ¬ n < 0 ∧ ∀ i, i < c.slots.size → c.slots[i]? = some (.int (f i)) ∧ fits ty (.int (f i)) = true
def own_upd (f : Nat → Int32) (j : Nat) (x : Int32) : Nat → Int32 := fun i => if i = j then x else f i
theorem own_upd_hit (f : Nat → Int32) {i j : Nat} (x : Int32) (h : i = j) : own_upd f j x i = x := if_pos h
theorem own_upd_miss (f : Nat → Int32) {i j : Nat} (x : Int32) (h : ¬ i = j) : own_upd f j x i = f i := if_neg h
theorem own_A.lt {Z : State} {h : Heap} {a : Addr} {ty : FieldType} {n : Int32} {f : Nat → Int32} (F : own_A Z h a ty n f) : a < h.size := by obtain ⟨c, A, -⟩ := F; exact A.lt
theorem own_A.ext {Z : State} {h h' : Heap} {a : Addr} {ty : FieldType} {n : Int32} {f : Nat → Int32} (F : own_A Z h a ty n f) (E : Ext h h') : own_A Z h' a ty n f := by obtain ⟨c, A, r⟩ := F; exact ⟨c, A.ext E, r⟩
theorem own_A.other {Z : State} {h h' : Heap} {a b : Addr} {sl : Nat} {v : Value} {ty : FieldType} {n : Int32} {f : Nat → Int32} (F : own_A Z h b ty n f) (W : Wr h h' a sl v) (q : b ≠ a) : own_A Z h' b ty n f := by obtain ⟨c, A, r⟩ := F; exact ⟨c, A.other W q, r⟩
theorem own_A.keep {Z : State} {h h' : Heap} {a : Addr} {ws : List Addr} {ty : FieldType} {n : Int32} {f : Nat → Int32} (F : own_A Z h a ty n f) (K : Keep h h' ws) (q : a ∉ ws) : own_A Z h' a ty n f := by obtain ⟨c, A, r⟩ := F; exact ⟨c, ⟨K.2.1 a c A.1 q, A.2⟩, r⟩
theorem own_A.new {Z : State} {h : Heap} {a : Addr} {k : ClassId} {ty : FieldType} {n : Int32} (A : Arr Z h a (newA k ty n) ty) (q : ¬ n < 0) (hd : defaultValue ty = .int 0) (hf : fits ty (.int 0) = true) : own_A Z h a ty n (fun _ => 0) :=
  ⟨_, A, sz_new _ _ _, q, fun i hi => by
    have hi' : i < n.toNatClampNeg := by rw [sz_new] at hi; exact hi
    exact ⟨by simp [newA, hd, hi'], hf⟩⟩
theorem own_A.set {Z : State} {h h' : Heap} {a : Addr} {ty : FieldType} {n j x : Int32} {f : Nat → Int32} (F : own_A Z h a ty n f) (W : Wr h h' a j.toNatClampNeg (.int x)) (hf : fits ty (.int x) = true) : own_A Z h' a ty n (own_upd f j.toNatClampNeg x) := by
  obtain ⟨c, A, S, N, G⟩ := F
  refine ⟨_, A.same W, by rw [sz_set]; exact S, N, fun i hi => ?_⟩
  rw [sz_set] at hi
  have g := G i hi
  by_cases q : i = j.toNatClampNeg
  · rw [own_upd_hit f x q, q]
    rw [q] at hi
    exact ⟨by simp [Cell.setSlot, hi], hf⟩
  · rw [own_upd_miss f x q]
    refine ⟨?_, g.2⟩
    rw [← g.1]
    simp only [Cell.setSlot]
    rw [Array.getElem?_setIfInBounds_ne (Ne.symm q)]
theorem own_A.at {Z : State} {h : Heap} {a : Addr} {ty : FieldType} {n : Int32} {f : Nat → Int32} (F : own_A Z h a ty n f) {j : Int32} (j0 : ¬ j < 0) (jn : j < n) : ∃ c : Cell, Arr Z h a c ty ∧ ¬ (j < 0 ∨ c.slots.size ≤ j.toNatClampNeg) ∧ c.slots[j.toNatClampNeg]? = some (.int (f j.toNatClampNeg)) := by
  obtain ⟨c, A, S, N, G⟩ := F
  have hin := inb_of S ⟨j0, jn⟩
  exact ⟨c, A, hin, (G _ (Nat.lt_of_not_le fun y => hin (Or.inr y))).1⟩
theorem own_A.len {Z : State} {h : Heap} {a : Addr} {ty : FieldType} {n : Int32} {f : Nat → Int32} (F : own_A Z h a ty n f) : ∃ c : Cell, Arr Z h a c ty ∧ c.slots.size.toInt32 = n := by
  obtain ⟨c, A, S, N, G⟩ := F
  exact ⟨c, A, len_of S N⟩
theorem own_A.cast {Z : State} {h : Heap} {a : Addr} {ty : FieldType} {n : Int32} {f g : Nat → Int32} (F : own_A Z h a ty n f) (q : ∀ i, i < n.toNatClampNeg → f i = g i) : own_A Z h a ty n g := by
  obtain ⟨c, A, S, N, G⟩ := F
  exact ⟨c, A, S, N, fun i hi => by rw [← q i (S ▸ hi)]; exact G i hi⟩
def own_lo (n q0 q1 : Int32) : Int32 := if n = 0 ∧ q0 < q1 then 1 else 0
theorem own_lo1 {n q0 q1 : Int32} (h1 : n = 0) (h2 : q0 < q1) : own_lo n q0 q1 = 1 := if_pos ⟨h1, h2⟩
theorem own_lo0 {n q0 q1 : Int32} (h : ¬ (n = 0 ∧ q0 < q1)) : own_lo n q0 q1 = 0 := if_neg h
theorem own_width (a b : Int32) : (0 : Int64) < b.toInt64 - a.toInt64 ↔ a < b := by
  have ha := rng32 a
  have hb := rng32 b
  have e : (b.toInt64 - a.toInt64).toInt = b.toInt - a.toInt := by
    have q := XT.sub64 (x := b.toInt64) (y := a.toInt64) ⟨by rw [Int32.toInt_toInt64, Int32.toInt_toInt64]; omega, by rw [Int32.toInt_toInt64, Int32.toInt_toInt64]; omega⟩
    rw [q, Int32.toInt_toInt64, Int32.toInt_toInt64]
  rw [Int64.lt_iff_toInt_lt, Int32.lt_iff_toInt_lt, e]
  have z : (0 : Int64).toInt = 0 := by decide
  rw [z]; omega
theorem own_and3 (x : Int32) : x &&& 3 = 0 ∨ x &&& 3 = 1 ∨ x &&& 3 = 2 ∨ x &&& 3 = 3 := by
  have h := c_mask x 3 2 (by decide) (by decide)
  have e : ∀ k : Int32, (x &&& 3).toInt = k.toInt → x &&& 3 = k := fun k q => Int32.toInt_inj.mp q
  have h1 : (x &&& 3).toInt = 0 ∨ (x &&& 3).toInt = 1 ∨ (x &&& 3).toInt = 2 ∨ (x &&& 3).toInt = 3 := by omega
  rcases h1 with q | q | q | q
  · exact Or.inl (e 0 (q.trans (by decide)))
  · exact Or.inr (Or.inl (e 1 (q.trans (by decide))))
  · exact Or.inr (Or.inr (Or.inl (e 2 (q.trans (by decide)))))
  · exact Or.inr (Or.inr (Or.inr (e 3 (q.trans (by decide)))))
def Q1 (Z : State) (a1 : Addr) (h0 : Heap) (n0 : Nat) (v : Option Value) (h : Heap) (L : List Loc) : Prop := v = none ∧ Fr n0 L ∧ h = h0
theorem d1_0 : decode jdk_30_method_1_code 0 = .ok (.aload_n 0, 1) := by decide +kernel
theorem d1_1 : decode jdk_30_method_1_code 1 = .ok (.invokespecial 1, 3) := by decide +kernel
theorem d1_4 : decode jdk_30_method_1_code 4 = .ok (.return_, 1) := by decide +kernel
theorem pn_1 : plainName "java/lang/Record" = true := by first | (simp [plainName, overriddenIn]; done) | decide +kernel
theorem ef_1 (m : MethodId) (x0 : Addr) : entryFrame m #[(.ref x0)] 1 = mkF m 0 #[.val (.ref x0)] [] := by first | (simp [entryFrame, mkF, argsToLocals, Value.category]; done) | rfl
set_option maxRecDepth 65536 in
set_option maxHeartbeats 40000000 in
theorem rm1 (l : Launch) (Z : State) (a0 : Array Value) (hw : ∀ d ∈ tables_1, d.before a0 Z = true) (ws : List Jvm.Cond) (a1 : Addr) (h0 : Heap) (n0 : Nat) (Z0 : n0 ≤ h0.size)  :
    MetFree l (⟨"java/lang/Record", "<init>", "()V"⟩ : MethodName) (head1 (Jvm.Cond.code (⟨"java/lang/Record", "<init>", "()V"⟩ : MethodName) jdk_30_method_1_code 1 none :: ws) ({ frames := 1, cells := 0, slots := 0, locals := 12 } : Room)) (fun a U => a = #[(.ref a1)] ∧ Z.Warmed39 U.vm ∧ U.heap = h0) (fun _ _ _ _ _ => True) (fun _ U o U' => ∃ v L, o = .returned v ∧ Q1 Z a1 h0 n0 v U'.heap L ∧ FrameEnd U o U' L ({ frames := 1, cells := 0, slots := 0, locals := 12 } : Room).cells ({ frames := 1, cells := 0, slots := 0, locals := 12 } : Room).slots) := by
  refine MetFree.of_bodySF (plainFor_of_name pn_1) hisR ?_
  intro p e s m args below meth c s₁ Bd hml0 hP hK
  obtain ⟨rfl, hZ, hh⟩ := hP
  have hx := Bd.exec
  have hby := Bd.bytes
  have hml : c.maxLocals = 1 := hml0
  have hown : s.vm.findClass "java/lang/Record" = some m.cls := findClass_of_methodNamed Bd.named
  have hnm := (name_of_methodNamed Bd.named Bd.method).1
  have X0 : Stand p l e ({ frames := 1, cells := 0, slots := 0, locals := 12 } : Room) s m #[(.ref a1)] below meth c s₁ [] 0 0 := Stand.of_body Bd
  have e0 : s₁.heap = h0 := by rw [← hh, Bd.state]; rfl
  have N0 := Fr.nil n0
  have pre0 : own_Go p e below (s₁.setTop (entryFrame m #[(.ref a1)] 1)) (s₁.setTop (mkF m 0 #[.val (.ref a1)] [])) := fun t k => castTop (ef_1 m a1) k
  have pre1 : own_Go p e below (s₁.setTop (entryFrame m #[(.ref a1)] 1)) (s₁.setTop (mkF m 1 #[.val (.ref a1)] [(.ref a1)])) := fun t k => pre0 t (by
      show Steps p.tables e below (s₁.setTop (mkF m 0 #[.val (.ref a1)] [])) _
      refine XS.aloadN X0.here hx rfl (hb hby d1_0) rfl rfl ?_
      exact k)
  obtain ⟨T2, X2, e2, st2⟩ := initO X0 hx hZ hown (hw _ (List.mem_of_getElem? (i := 13) rfl)) (hw _ (List.mem_of_getElem? (i := 14) rfl)) (hw _ (List.mem_of_getElem? (i := 15) rfl)) e0 (g := (mkF m 1 #[.val (.ref a1)] [(.ref a1)])) rfl (by rw [hml]; rfl) rfl (hb hby d1_1) (by decide) (W := 0) (by show 2 * 0 + _ ≤ _; exact Nat.le_of_eq rfl) (by decide)
  have pre3 : own_Go p e below (s₁.setTop (entryFrame m #[(.ref a1)] 1)) (T2.setTop (mkF m 4 #[.val (.ref a1)] [])) := fun t k => pre1 t (st2 t k)
  obtain ⟨fs, hr, hrun, hended, hW, hsame⟩ := X2.leave (v := none) (fun _ => rfl)
  refine ⟨_, _, pre3 _ ?_, hrun, hended, _, _, rfl, ?_, ⟨_, rfl⟩, hW, hsame.mono (by decide) (by decide)⟩
  · show Steps p.tables e below (T2.setTop (mkF m 4 #[.val (.ref a1)] [])) _
    exact X2.returnOut hx Bd.returns (hb hby d1_4) hr
  · show Q1 Z a1 h0 n0 _ T2.heap _
    rw [e2]
    exact ⟨rfl, N0, rfl⟩
def Q2 (Z : State) (a1 : Addr) (p4 p5 : Int32) (a6 : Addr) (h0 : Heap) (n0 : Nat) (v : Option Value) (h : Heap) (L : List Loc) : Prop := v = none ∧ Fr n0 L ∧ Keep h0 h [a1] ∧ Fld Z h a1 "com/example/mullion/mullion/client/Shell$Event" "q0" "I" (.int p4) ∧ Fld Z h a1 "com/example/mullion/mullion/client/Shell$Event" "q1" "I" (.int p5) ∧ Fld Z h a1 "com/example/mullion/mullion/client/Shell$Event" "text" "[B" (.ref a6)
theorem d2_0 : decode prog_3_method_1_code 0 = .ok (.aload_n 0, 1) := by decide +kernel
theorem d2_1 : decode prog_3_method_1_code 1 = .ok (.invokespecial 1, 3) := by decide +kernel
theorem d2_4 : decode prog_3_method_1_code 4 = .ok (.aload_n 0, 1) := by decide +kernel
theorem d2_5 : decode prog_3_method_1_code 5 = .ok (.iload_n 1, 1) := by decide +kernel
theorem d2_6 : decode prog_3_method_1_code 6 = .ok (.putfield 7, 3) := by decide +kernel
theorem d2_9 : decode prog_3_method_1_code 9 = .ok (.aload_n 0, 1) := by decide +kernel
theorem d2_10 : decode prog_3_method_1_code 10 = .ok (.iload_n 2, 1) := by decide +kernel
theorem d2_11 : decode prog_3_method_1_code 11 = .ok (.putfield 13, 3) := by decide +kernel
theorem d2_14 : decode prog_3_method_1_code 14 = .ok (.aload_n 0, 1) := by decide +kernel
theorem d2_15 : decode prog_3_method_1_code 15 = .ok (.iload_n 3, 1) := by decide +kernel
theorem d2_16 : decode prog_3_method_1_code 16 = .ok (.putfield 16, 3) := by decide +kernel
theorem d2_19 : decode prog_3_method_1_code 19 = .ok (.aload_n 0, 1) := by decide +kernel
theorem d2_20 : decode prog_3_method_1_code 20 = .ok (.iload 4, 2) := by decide +kernel
theorem d2_22 : decode prog_3_method_1_code 22 = .ok (.putfield 20, 3) := by decide +kernel
theorem d2_25 : decode prog_3_method_1_code 25 = .ok (.aload_n 0, 1) := by decide +kernel
theorem d2_26 : decode prog_3_method_1_code 26 = .ok (.aload 5, 2) := by decide +kernel
theorem d2_28 : decode prog_3_method_1_code 28 = .ok (.putfield 23, 3) := by decide +kernel
theorem d2_31 : decode prog_3_method_1_code 31 = .ok (.return_, 1) := by decide +kernel
theorem pn_2 : plainName "com/example/mullion/mullion/client/Shell$Event" = true := by first | (simp [plainName, overriddenIn]; done) | decide +kernel
theorem pd_2_0 : parseMethodDescriptor "()V" = some ⟨[], none⟩ := by decide +kernel
theorem ef_2 (m : MethodId) (x0 : Addr) (x1 : Int32) (x2 : Int32) (x3 : Int32) (x4 : Int32) (x5 : Addr) : entryFrame m #[(.ref x0), (.int x1), (.int x2), (.int x3), (.int x4), (.ref x5)] 6 = mkF m 0 #[.val (.ref x0), .val (.int x1), .val (.int x2), .val (.int x3), .val (.int x4), .val (.ref x5)] [] := by first | (simp [entryFrame, mkF, argsToLocals, Value.category]; done) | rfl
set_option maxRecDepth 65536 in
set_option maxHeartbeats 40000000 in
theorem rm2 (l : Launch) (Z : State) (a0 : Array Value) (hw : ∀ d ∈ tables_1, d.before a0 Z = true) (ws : List Jvm.Cond) (a1 : Addr) (p2 p3 p4 p5 : Int32) (a6 : Addr) (h0 : Heap) (n0 : Nat) (Z0 : n0 ≤ h0.size) (E1 : Exa Z h0 a1 "com/example/mullion/mullion/client/Shell$Event") (F_origin : Fld Z h0 a1 "com/example/mullion/mullion/client/Shell$Event" "origin" "C" (.int (0 : Int32))) (F_kind : Fld Z h0 a1 "com/example/mullion/mullion/client/Shell$Event" "kind" "C" (.int (0 : Int32))) (F_q0 : Fld Z h0 a1 "com/example/mullion/mullion/client/Shell$Event" "q0" "I" (.int (0 : Int32))) (F_q1 : Fld Z h0 a1 "com/example/mullion/mullion/client/Shell$Event" "q1" "I" (.int (0 : Int32))) (F_text : Fld Z h0 a1 "com/example/mullion/mullion/client/Shell$Event" "text" "[B" .null) (g1 : n0 ≤ a1) :
    MetFree l (⟨"com/example/mullion/mullion/client/Shell$Event", "<init>", "(CCII[B)V"⟩ : MethodName) (head1 (Jvm.Cond.code (⟨"com/example/mullion/mullion/client/Shell$Event", "<init>", "(CCII[B)V"⟩ : MethodName) prog_3_method_1_code 6 none :: ws) ({ frames := 2, cells := 0, slots := 0, locals := 24 } : Room)) (fun a U => a = #[(.ref a1), (.int p2), (.int p3), (.int p4), (.int p5), (.ref a6)] ∧ Z.Warmed39 U.vm ∧ U.heap = h0) (fun _ _ _ _ _ => True) (fun _ U o U' => ∃ v L, o = .returned v ∧ Q2 Z a1 p4 p5 a6 h0 n0 v U'.heap L ∧ FrameEnd U o U' L ({ frames := 2, cells := 0, slots := 0, locals := 24 } : Room).cells ({ frames := 2, cells := 0, slots := 0, locals := 24 } : Room).slots) := by
  refine MetFree.of_bodySF (plainFor_of_name pn_2) hisR ?_
  intro p e s m args below meth c s₁ Bd hml0 hP hK
  obtain ⟨rfl, hZ, hh⟩ := hP
  have hx := Bd.exec
  have hby := Bd.bytes
  have hml : c.maxLocals = 6 := hml0
  have hown : s.vm.findClass "com/example/mullion/mullion/client/Shell$Event" = some m.cls := findClass_of_methodNamed Bd.named
  have hnm := (name_of_methodNamed Bd.named Bd.method).1
  have X0 : Stand p l e ({ frames := 2, cells := 0, slots := 0, locals := 24 } : Room) s m #[(.ref a1), (.int p2), (.int p3), (.int p4), (.int p5), (.ref a6)] below meth c s₁ [] 0 0 := Stand.of_body Bd
  have e0 : s₁.heap = h0 := by rw [← hh, Bd.state]; rfl
  have N0 := Fr.nil n0
  have pre0 : own_Go p e below (s₁.setTop (entryFrame m #[(.ref a1), (.int p2), (.int p3), (.int p4), (.int p5), (.ref a6)] 6)) (s₁.setTop (mkF m 0 #[.val (.ref a1), .val (.int p2), .val (.int p3), .val (.int p4), .val (.int p5), .val (.ref a6)] [])) := fun t k => castTop (ef_2 m a1 p2 p3 p4 p5 a6) k
  have pre1 : own_Go p e below (s₁.setTop (entryFrame m #[(.ref a1), (.int p2), (.int p3), (.int p4), (.int p5), (.ref a6)] 6)) (s₁.setTop (mkF m 1 #[.val (.ref a1), .val (.int p2), .val (.int p3), .val (.int p4), .val (.int p5), .val (.ref a6)] [(.ref a1)])) := fun t k => pre0 t (by
      show Steps p.tables e below (s₁.setTop (mkF m 0 #[.val (.ref a1), .val (.int p2), .val (.int p3), .val (.int p4), .val (.int p5), .val (.ref a6)] [])) _
      refine XS.aloadN X0.here hx rfl (hb hby d2_0) rfl rfl ?_
      exact k)
  obtain ⟨_, _, ⟨T2, L2, k2, n2⟩, -, X2, ⟨Lc2, hQ2, l2, y2, z2⟩, st2⟩ := X0.specialBack hx (y := (⟨"java/lang/Record", "<init>", "()V"⟩ : MethodName)) rfl hown (mvT hZ (hw _ (List.mem_of_getElem? (i := 8) rfl))) (mvT hZ (hw _ (List.mem_of_getElem? (i := 9) rfl))) (mvT hZ (hw _ (List.mem_of_getElem? (i := 12) rfl))) (by decide) (backOf (W := 0) (rm1 l Z a0 hw [] a1 h0 n0 Z0) hZ (hw _ (List.mem_of_getElem? (i := 12) rfl)) (hw _ (List.mem_of_getElem? (i := 11) rfl)) (by decide) (by decide)) (g := (mkF m 1 #[.val (.ref a1), .val (.int p2), .val (.int p3), .val (.int p4), .val (.int p5), .val (.ref a6)] [(.ref a1)])) rfl (by rw [hml]; rfl) (Steps.refl _) (a := a1) (argsL := []) (rest := []) (lenOf pd_2_0 rfl) rfl (by show 2 * 0 + _ ≤ _; exact Nat.le_of_eq rfl) (hb hby d2_1) (fun _ _ => ⟨rfl, e0, (by decide : 0 + 0 ≤ _), (by decide : 0 + 0 ≤ _)⟩)
  dsimp only [Pt.U, Pt.locs, Pt.cells, Pt.slots] at X2 l2 y2 z2 st2 hQ2
  subst l2 y2 z2
  obtain ⟨rfl, N2q, hh2⟩ := hQ2
  have N2 := Fr.app N0 N2q
  have pre3 : own_Go p e below (s₁.setTop (entryFrame m #[(.ref a1), (.int p2), (.int p3), (.int p4), (.int p5), (.ref a6)] 6)) (T2.setTop (mkF m 4 #[.val (.ref a1), .val (.int p2), .val (.int p3), .val (.int p4), .val (.int p5), .val (.ref a6)] [])) := fun t k => pre1 t (st2.trans k)
  rw [← hh2] at E1 F_origin F_kind F_q0 F_q1 F_text
  have K1 : Keep h0 T2.heap [a1] := by rw [hh2]; exact Keep.refl h0 [a1]
  have pre4 : own_Go p e below (s₁.setTop (entryFrame m #[(.ref a1), (.int p2), (.int p3), (.int p4), (.int p5), (.ref a6)] 6)) (T2.setTop (mkF m 6 #[.val (.ref a1), .val (.int p2), .val (.int p3), .val (.int p4), .val (.int p5), .val (.ref a6)] [(.int p2), (.ref a1)])) := fun t k => pre3 t (by
      show Steps p.tables e below (T2.setTop (mkF m 4 #[.val (.ref a1), .val (.int p2), .val (.int p3), .val (.int p4), .val (.int p5), .val (.ref a6)] [])) _
      refine XS.aloadN X2.here hx rfl (hb hby d2_4) rfl rfl ?_
      show Steps p.tables e below (T2.setTop (mkF m 5 #[.val (.ref a1), .val (.int p2), .val (.int p3), .val (.int p4), .val (.int p5), .val (.ref a6)] [(.ref a1)])) _
      refine XS.iloadN X2.here hx rfl (hb hby d2_5) rfl ?_
      exact k)
  obtain ⟨T5, h5, X5, e5, W5, st5⟩ := putFN X2 hx hZ hown (hw _ (List.mem_of_getElem? (i := 16) rfl)) Via.refl rfl F_origin E1 (Or.inr ⟨(hw _ (List.mem_of_getElem? (i := 17) rfl)), rfl, hnm⟩) (hw _ (List.mem_of_getElem? (i := 2) rfl)) (ty := .char) (v' := (.int (nar .char p2))) (by decide) rfl (fits_nar_char _) (g := (mkF m 6 #[.val (.ref a1), .val (.int p2), .val (.int p3), .val (.int p4), .val (.int p5), .val (.ref a6)] [(.int p2), (.ref a1)])) rfl rfl (hb hby d2_6)
  have N5 := Fr.snoc X5 N2 g1
  have pre6 : own_Go p e below (s₁.setTop (entryFrame m #[(.ref a1), (.int p2), (.int p3), (.int p4), (.int p5), (.ref a6)] 6)) (T5.setTop (mkF m 9 #[.val (.ref a1), .val (.int p2), .val (.int p3), .val (.int p4), .val (.int p5), .val (.ref a6)] [])) := fun t k => pre4 t (st5 t k)
  have F_7 := F_origin.same W5
  have F_8 := F_kind.other W5 (Or.inr (slot_ne (Or.inr (hw _ (List.mem_of_getElem? (i := 19) rfl))) (Or.inr (hw _ (List.mem_of_getElem? (i := 17) rfl))) (by decide) (t := .char) (by decide) (t' := .char) (by decide)))
  have F_9 := F_q0.other W5 (Or.inr (slot_ne (Or.inr (hw _ (List.mem_of_getElem? (i := 21) rfl))) (Or.inr (hw _ (List.mem_of_getElem? (i := 17) rfl))) (by decide) (t := .int) (by decide) (t' := .char) (by decide)))
  have F_10 := F_q1.other W5 (Or.inr (slot_ne (Or.inr (hw _ (List.mem_of_getElem? (i := 23) rfl))) (Or.inr (hw _ (List.mem_of_getElem? (i := 17) rfl))) (by decide) (t := .int) (by decide) (t' := .char) (by decide)))
  have F_11 := F_text.other W5 (Or.inr (slot_ne (Or.inr (hw _ (List.mem_of_getElem? (i := 25) rfl))) (Or.inr (hw _ (List.mem_of_getElem? (i := 17) rfl))) (by decide) (t := (.array .byte)) (by decide) (t' := .char) (by decide)))
  have Ex_12 := E1.wr W5
  have K_13 := K1.wr W5 (Or.inl (List.mem_of_getElem? (i := 0) rfl))
  have pre14 : own_Go p e below (s₁.setTop (entryFrame m #[(.ref a1), (.int p2), (.int p3), (.int p4), (.int p5), (.ref a6)] 6)) (T5.setTop (mkF m 11 #[.val (.ref a1), .val (.int p2), .val (.int p3), .val (.int p4), .val (.int p5), .val (.ref a6)] [(.int p3), (.ref a1)])) := fun t k => pre6 t (by
      show Steps p.tables e below (T5.setTop (mkF m 9 #[.val (.ref a1), .val (.int p2), .val (.int p3), .val (.int p4), .val (.int p5), .val (.ref a6)] [])) _
      refine XS.aloadN X5.here hx rfl (hb hby d2_9) rfl rfl ?_
      show Steps p.tables e below (T5.setTop (mkF m 10 #[.val (.ref a1), .val (.int p2), .val (.int p3), .val (.int p4), .val (.int p5), .val (.ref a6)] [(.ref a1)])) _
      refine XS.iloadN X5.here hx rfl (hb hby d2_10) rfl ?_
      exact k)
  obtain ⟨T15, h15, X15, e15, W15, st15⟩ := putFN X5 hx hZ hown (hw _ (List.mem_of_getElem? (i := 18) rfl)) Via.refl e5 F_8 Ex_12 (Or.inr ⟨(hw _ (List.mem_of_getElem? (i := 19) rfl)), rfl, hnm⟩) (hw _ (List.mem_of_getElem? (i := 2) rfl)) (ty := .char) (v' := (.int (nar .char p3))) (by decide) rfl (fits_nar_char _) (g := (mkF m 11 #[.val (.ref a1), .val (.int p2), .val (.int p3), .val (.int p4), .val (.int p5), .val (.ref a6)] [(.int p3), (.ref a1)])) rfl rfl (hb hby d2_11)
  have N15 := Fr.snoc X15 N5 g1
  have pre16 : own_Go p e below (s₁.setTop (entryFrame m #[(.ref a1), (.int p2), (.int p3), (.int p4), (.int p5), (.ref a6)] 6)) (T15.setTop (mkF m 14 #[.val (.ref a1), .val (.int p2), .val (.int p3), .val (.int p4), .val (.int p5), .val (.ref a6)] [])) := fun t k => pre14 t (st15 t k)
  have F_17 := F_7.other W15 (Or.inr (slot_ne (Or.inr (hw _ (List.mem_of_getElem? (i := 17) rfl))) (Or.inr (hw _ (List.mem_of_getElem? (i := 19) rfl))) (by decide) (t := .char) (by decide) (t' := .char) (by decide)))
  have F_18 := F_8.same W15
  have F_19 := F_9.other W15 (Or.inr (slot_ne (Or.inr (hw _ (List.mem_of_getElem? (i := 21) rfl))) (Or.inr (hw _ (List.mem_of_getElem? (i := 19) rfl))) (by decide) (t := .int) (by decide) (t' := .char) (by decide)))
  have F_20 := F_10.other W15 (Or.inr (slot_ne (Or.inr (hw _ (List.mem_of_getElem? (i := 23) rfl))) (Or.inr (hw _ (List.mem_of_getElem? (i := 19) rfl))) (by decide) (t := .int) (by decide) (t' := .char) (by decide)))
  have F_21 := F_11.other W15 (Or.inr (slot_ne (Or.inr (hw _ (List.mem_of_getElem? (i := 25) rfl))) (Or.inr (hw _ (List.mem_of_getElem? (i := 19) rfl))) (by decide) (t := (.array .byte)) (by decide) (t' := .char) (by decide)))
  have Ex_22 := Ex_12.wr W15
  have K_23 := K_13.wr W15 (Or.inl (List.mem_of_getElem? (i := 0) rfl))
  have pre24 : own_Go p e below (s₁.setTop (entryFrame m #[(.ref a1), (.int p2), (.int p3), (.int p4), (.int p5), (.ref a6)] 6)) (T15.setTop (mkF m 16 #[.val (.ref a1), .val (.int p2), .val (.int p3), .val (.int p4), .val (.int p5), .val (.ref a6)] [(.int p4), (.ref a1)])) := fun t k => pre16 t (by
      show Steps p.tables e below (T15.setTop (mkF m 14 #[.val (.ref a1), .val (.int p2), .val (.int p3), .val (.int p4), .val (.int p5), .val (.ref a6)] [])) _
      refine XS.aloadN X15.here hx rfl (hb hby d2_14) rfl rfl ?_
      show Steps p.tables e below (T15.setTop (mkF m 15 #[.val (.ref a1), .val (.int p2), .val (.int p3), .val (.int p4), .val (.int p5), .val (.ref a6)] [(.ref a1)])) _
      refine XS.iloadN X15.here hx rfl (hb hby d2_15) rfl ?_
      exact k)
  obtain ⟨T25, h25, X25, e25, W25, st25⟩ := putF X15 hx hZ hown (host := "") (Or.inl (hw _ (List.mem_of_getElem? (i := 20) rfl))) Via.refl e15 F_19 Ex_22 (Or.inr ⟨(hw _ (List.mem_of_getElem? (i := 21) rfl)), rfl, hnm⟩) (hw _ (List.mem_of_getElem? (i := 2) rfl)) (ty := .int) (by decide) rfl rfl (g := (mkF m 16 #[.val (.ref a1), .val (.int p2), .val (.int p3), .val (.int p4), .val (.int p5), .val (.ref a6)] [(.int p4), (.ref a1)])) rfl rfl (hb hby d2_16)
  have N25 := Fr.snoc X25 N15 g1
  have pre26 : own_Go p e below (s₁.setTop (entryFrame m #[(.ref a1), (.int p2), (.int p3), (.int p4), (.int p5), (.ref a6)] 6)) (T25.setTop (mkF m 19 #[.val (.ref a1), .val (.int p2), .val (.int p3), .val (.int p4), .val (.int p5), .val (.ref a6)] [])) := fun t k => pre24 t (st25 t k)
  have F_27 := F_17.other W25 (Or.inr (slot_ne (Or.inr (hw _ (List.mem_of_getElem? (i := 17) rfl))) (Or.inr (hw _ (List.mem_of_getElem? (i := 21) rfl))) (by decide) (t := .char) (by decide) (t' := .int) (by decide)))
  have F_28 := F_18.other W25 (Or.inr (slot_ne (Or.inr (hw _ (List.mem_of_getElem? (i := 19) rfl))) (Or.inr (hw _ (List.mem_of_getElem? (i := 21) rfl))) (by decide) (t := .char) (by decide) (t' := .int) (by decide)))
  have F_29 := F_19.same W25
  have F_30 := F_20.other W25 (Or.inr (slot_ne (Or.inr (hw _ (List.mem_of_getElem? (i := 23) rfl))) (Or.inr (hw _ (List.mem_of_getElem? (i := 21) rfl))) (by decide) (t := .int) (by decide) (t' := .int) (by decide)))
  have F_31 := F_21.other W25 (Or.inr (slot_ne (Or.inr (hw _ (List.mem_of_getElem? (i := 25) rfl))) (Or.inr (hw _ (List.mem_of_getElem? (i := 21) rfl))) (by decide) (t := (.array .byte)) (by decide) (t' := .int) (by decide)))
  have Ex_32 := Ex_22.wr W25
  have K_33 := K_23.wr W25 (Or.inl (List.mem_of_getElem? (i := 0) rfl))
  have pre34 : own_Go p e below (s₁.setTop (entryFrame m #[(.ref a1), (.int p2), (.int p3), (.int p4), (.int p5), (.ref a6)] 6)) (T25.setTop (mkF m 22 #[.val (.ref a1), .val (.int p2), .val (.int p3), .val (.int p4), .val (.int p5), .val (.ref a6)] [(.int p5), (.ref a1)])) := fun t k => pre26 t (by
      show Steps p.tables e below (T25.setTop (mkF m 19 #[.val (.ref a1), .val (.int p2), .val (.int p3), .val (.int p4), .val (.int p5), .val (.ref a6)] [])) _
      refine XS.aloadN X25.here hx rfl (hb hby d2_19) rfl rfl ?_
      show Steps p.tables e below (T25.setTop (mkF m 20 #[.val (.ref a1), .val (.int p2), .val (.int p3), .val (.int p4), .val (.int p5), .val (.ref a6)] [(.ref a1)])) _
      refine XS.iload X25.here hx rfl (hb hby d2_20) rfl ?_
      exact k)
  obtain ⟨T35, h35, X35, e35, W35, st35⟩ := putF X25 hx hZ hown (host := "") (Or.inl (hw _ (List.mem_of_getElem? (i := 22) rfl))) Via.refl e25 F_30 Ex_32 (Or.inr ⟨(hw _ (List.mem_of_getElem? (i := 23) rfl)), rfl, hnm⟩) (hw _ (List.mem_of_getElem? (i := 2) rfl)) (ty := .int) (by decide) rfl rfl (g := (mkF m 22 #[.val (.ref a1), .val (.int p2), .val (.int p3), .val (.int p4), .val (.int p5), .val (.ref a6)] [(.int p5), (.ref a1)])) rfl rfl (hb hby d2_22)
  have N35 := Fr.snoc X35 N25 g1
  have pre36 : own_Go p e below (s₁.setTop (entryFrame m #[(.ref a1), (.int p2), (.int p3), (.int p4), (.int p5), (.ref a6)] 6)) (T35.setTop (mkF m 25 #[.val (.ref a1), .val (.int p2), .val (.int p3), .val (.int p4), .val (.int p5), .val (.ref a6)] [])) := fun t k => pre34 t (st35 t k)
  have F_37 := F_27.other W35 (Or.inr (slot_ne (Or.inr (hw _ (List.mem_of_getElem? (i := 17) rfl))) (Or.inr (hw _ (List.mem_of_getElem? (i := 23) rfl))) (by decide) (t := .char) (by decide) (t' := .int) (by decide)))
  have F_38 := F_28.other W35 (Or.inr (slot_ne (Or.inr (hw _ (List.mem_of_getElem? (i := 19) rfl))) (Or.inr (hw _ (List.mem_of_getElem? (i := 23) rfl))) (by decide) (t := .char) (by decide) (t' := .int) (by decide)))
  have F_39 := F_29.other W35 (Or.inr (slot_ne (Or.inr (hw _ (List.mem_of_getElem? (i := 21) rfl))) (Or.inr (hw _ (List.mem_of_getElem? (i := 23) rfl))) (by decide) (t := .int) (by decide) (t' := .int) (by decide)))
  have F_40 := F_30.same W35
  have F_41 := F_31.other W35 (Or.inr (slot_ne (Or.inr (hw _ (List.mem_of_getElem? (i := 25) rfl))) (Or.inr (hw _ (List.mem_of_getElem? (i := 23) rfl))) (by decide) (t := (.array .byte)) (by decide) (t' := .int) (by decide)))
  have Ex_42 := Ex_32.wr W35
  have K_43 := K_33.wr W35 (Or.inl (List.mem_of_getElem? (i := 0) rfl))
  have pre44 : own_Go p e below (s₁.setTop (entryFrame m #[(.ref a1), (.int p2), (.int p3), (.int p4), (.int p5), (.ref a6)] 6)) (T35.setTop (mkF m 28 #[.val (.ref a1), .val (.int p2), .val (.int p3), .val (.int p4), .val (.int p5), .val (.ref a6)] [(.ref a6), (.ref a1)])) := fun t k => pre36 t (by
      show Steps p.tables e below (T35.setTop (mkF m 25 #[.val (.ref a1), .val (.int p2), .val (.int p3), .val (.int p4), .val (.int p5), .val (.ref a6)] [])) _
      refine XS.aloadN X35.here hx rfl (hb hby d2_25) rfl rfl ?_
      show Steps p.tables e below (T35.setTop (mkF m 26 #[.val (.ref a1), .val (.int p2), .val (.int p3), .val (.int p4), .val (.int p5), .val (.ref a6)] [(.ref a1)])) _
      refine XS.aload X35.here hx rfl (hb hby d2_26) rfl rfl ?_
      exact k)
  obtain ⟨T45, h45, X45, e45, W45, st45⟩ := putF X35 hx hZ hown (host := "") (Or.inl (hw _ (List.mem_of_getElem? (i := 24) rfl))) Via.refl e35 F_41 Ex_42 (Or.inr ⟨(hw _ (List.mem_of_getElem? (i := 25) rfl)), rfl, hnm⟩) (hw _ (List.mem_of_getElem? (i := 2) rfl)) (ty := (.array .byte)) (by decide) rfl rfl (g := (mkF m 28 #[.val (.ref a1), .val (.int p2), .val (.int p3), .val (.int p4), .val (.int p5), .val (.ref a6)] [(.ref a6), (.ref a1)])) rfl rfl (hb hby d2_28)
  have N45 := Fr.snoc X45 N35 g1
  have pre46 : own_Go p e below (s₁.setTop (entryFrame m #[(.ref a1), (.int p2), (.int p3), (.int p4), (.int p5), (.ref a6)] 6)) (T45.setTop (mkF m 31 #[.val (.ref a1), .val (.int p2), .val (.int p3), .val (.int p4), .val (.int p5), .val (.ref a6)] [])) := fun t k => pre44 t (st45 t k)
  have F_47 := F_37.other W45 (Or.inr (slot_ne (Or.inr (hw _ (List.mem_of_getElem? (i := 17) rfl))) (Or.inr (hw _ (List.mem_of_getElem? (i := 25) rfl))) (by decide) (t := .char) (by decide) (t' := (.array .byte)) (by decide)))
  have F_48 := F_38.other W45 (Or.inr (slot_ne (Or.inr (hw _ (List.mem_of_getElem? (i := 19) rfl))) (Or.inr (hw _ (List.mem_of_getElem? (i := 25) rfl))) (by decide) (t := .char) (by decide) (t' := (.array .byte)) (by decide)))
  have F_49 := F_39.other W45 (Or.inr (slot_ne (Or.inr (hw _ (List.mem_of_getElem? (i := 21) rfl))) (Or.inr (hw _ (List.mem_of_getElem? (i := 25) rfl))) (by decide) (t := .int) (by decide) (t' := (.array .byte)) (by decide)))
  have F_50 := F_40.other W45 (Or.inr (slot_ne (Or.inr (hw _ (List.mem_of_getElem? (i := 23) rfl))) (Or.inr (hw _ (List.mem_of_getElem? (i := 25) rfl))) (by decide) (t := .int) (by decide) (t' := (.array .byte)) (by decide)))
  have F_51 := F_41.same W45
  have Ex_52 := Ex_42.wr W45
  have K_53 := K_43.wr W45 (Or.inl (List.mem_of_getElem? (i := 0) rfl))
  obtain ⟨fs, hr, hrun, hended, hW, hsame⟩ := X45.leave (v := none) (fun _ => rfl)
  refine ⟨_, _, pre46 _ ?_, hrun, hended, _, _, rfl, ?_, ⟨_, rfl⟩, hW, hsame.mono (by decide) (by decide)⟩
  · show Steps p.tables e below (T45.setTop (mkF m 31 #[.val (.ref a1), .val (.int p2), .val (.int p3), .val (.int p4), .val (.int p5), .val (.ref a6)] [])) _
    exact X45.returnOut hx Bd.returns (hb hby d2_31) hr
  · show Q2 Z a1 p4 p5 a6 h0 n0 _ T45.heap _
    rw [e45]
    exact ⟨rfl, N45, K_53, F_49, F_50, F_51⟩
def Q3 (Z : State) (n4 p4 p5 : Int32) (h0 : Heap) (n0 : Nat) (v : Option Value) (h : Heap) (L : List Loc) : Prop := v = some (.int (own_lo n4 p4 p5)) ∧ Fr n0 L ∧ h = h0
theorem d3_0 : decode prog_3_method_2_code 0 = .ok (.aload_n 0, 1) := by decide +kernel
theorem d3_1 : decode prog_3_method_2_code 1 = .ok (.getfield 23, 3) := by decide +kernel
theorem d3_4 : decode prog_3_method_2_code 4 = .ok (.arraylength, 1) := by decide +kernel
theorem d3_5 : decode prog_3_method_2_code 5 = .ok (.ifCond .ne 18, 3) := by decide +kernel
theorem d3_8 : decode prog_3_method_2_code 8 = .ok (.aload_n 0, 1) := by decide +kernel
theorem d3_9 : decode prog_3_method_2_code 9 = .ok (.getfield 16, 3) := by decide +kernel
theorem d3_12 : decode prog_3_method_2_code 12 = .ok (.aload_n 0, 1) := by decide +kernel
theorem d3_13 : decode prog_3_method_2_code 13 = .ok (.getfield 20, 3) := by decide +kernel
theorem d3_16 : decode prog_3_method_2_code 16 = .ok (.if_icmp .ge 7, 3) := by decide +kernel
theorem d3_19 : decode prog_3_method_2_code 19 = .ok (.iconst 1, 1) := by decide +kernel
theorem d3_20 : decode prog_3_method_2_code 20 = .ok (.goto 4, 3) := by decide +kernel
theorem d3_23 : decode prog_3_method_2_code 23 = .ok (.iconst 0, 1) := by decide +kernel
theorem d3_24 : decode prog_3_method_2_code 24 = .ok (.ireturn, 1) := by decide +kernel
theorem pn_3 : plainName "com/example/mullion/mullion/client/Shell$Event" = true := by first | (simp [plainName, overriddenIn]; done) | decide +kernel
theorem ef_3 (m : MethodId) (x0 : Addr) : entryFrame m #[(.ref x0)] 1 = mkF m 0 #[.val (.ref x0)] [] := by first | (simp [entryFrame, mkF, argsToLocals, Value.category]; done) | rfl
set_option maxRecDepth 65536 in
set_option maxHeartbeats 40000000 in
theorem rm3 (l : Launch) (Z : State) (a0 : Array Value) (hw : ∀ d ∈ tables_1, d.before a0 Z = true) (ws : List Jvm.Cond) (a1 : Addr) (p4 p5 : Int32) (a6 : Addr) (n4 : Int32) (f6 : Nat → Int32) (h0 : Heap) (n0 : Nat) (Z0 : n0 ≤ h0.size) (F_q0 : Fld Z h0 a1 "com/example/mullion/mullion/client/Shell$Event" "q0" "I" (.int p4)) (F_q1 : Fld Z h0 a1 "com/example/mullion/mullion/client/Shell$Event" "q1" "I" (.int p5)) (F_text : Fld Z h0 a1 "com/example/mullion/mullion/client/Shell$Event" "text" "[B" (.ref a6)) (V6 : own_A Z h0 a6 .byte n4 f6) :
    MetFree l (⟨"com/example/mullion/mullion/client/Shell$Event", "leftOut", "()Z"⟩ : MethodName) (head1 (Jvm.Cond.code (⟨"com/example/mullion/mullion/client/Shell$Event", "leftOut", "()Z"⟩ : MethodName) prog_3_method_2_code 1 (some .boolean) :: ws) ({ frames := 0, cells := 0, slots := 0, locals := 0 } : Room)) (fun a U => a = #[(.ref a1)] ∧ Z.Warmed39 U.vm ∧ U.heap = h0) (fun _ _ _ _ _ => True) (fun _ U o U' => ∃ v L, o = .returned v ∧ Q3 Z n4 p4 p5 h0 n0 v U'.heap L ∧ FrameEnd U o U' L ({ frames := 0, cells := 0, slots := 0, locals := 0 } : Room).cells ({ frames := 0, cells := 0, slots := 0, locals := 0 } : Room).slots) := by
  refine MetFree.of_bodySF (plainFor_of_name pn_3) hisR ?_
  intro p e s m args below meth c s₁ Bd hml0 hP hK
  obtain ⟨rfl, hZ, hh⟩ := hP
  have hx := Bd.exec
  have hby := Bd.bytes
  have hml : c.maxLocals = 1 := hml0
  have hown : s.vm.findClass "com/example/mullion/mullion/client/Shell$Event" = some m.cls := findClass_of_methodNamed Bd.named
  have hnm := (name_of_methodNamed Bd.named Bd.method).1
  have X0 : Stand p l e ({ frames := 0, cells := 0, slots := 0, locals := 0 } : Room) s m #[(.ref a1)] below meth c s₁ [] 0 0 := Stand.of_body Bd
  have e0 : s₁.heap = h0 := by rw [← hh, Bd.state]; rfl
  have N0 := Fr.nil n0
  have pre0 : own_Go p e below (s₁.setTop (entryFrame m #[(.ref a1)] 1)) (s₁.setTop (mkF m 0 #[.val (.ref a1)] [])) := fun t k => castTop (ef_3 m a1) k
  have pre1 : own_Go p e below (s₁.setTop (entryFrame m #[(.ref a1)] 1)) (s₁.setTop (mkF m 1 #[.val (.ref a1)] [(.ref a1)])) := fun t k => pre0 t (by
      show Steps p.tables e below (s₁.setTop (mkF m 0 #[.val (.ref a1)] [])) _
      refine XS.aloadN X0.here hx rfl (hb hby d3_0) rfl rfl ?_
      exact k)
  obtain ⟨T2, X2, e2, st2⟩ := getF X0 hx hZ hown (host := "") (Or.inl (hw _ (List.mem_of_getElem? (i := 24) rfl))) Via.refl e0 F_text (g := (mkF m 1 #[.val (.ref a1)] [(.ref a1)])) rfl rfl (hb hby d3_1)
  have pre3 : own_Go p e below (s₁.setTop (entryFrame m #[(.ref a1)] 1)) (T2.setTop (mkF m 4 #[.val (.ref a1)] [(.ref a6)])) := fun t k => pre1 t (st2 t k)
  obtain ⟨cl4, Ar4, ln4⟩ := own_A.len V6
  have pre5 : own_Go p e below (s₁.setTop (entryFrame m #[(.ref a1)] 1)) (T2.setTop (mkF m 5 #[.val (.ref a1)] [(.int n4)])) := fun t k => pre3 t (X2.arraylength hx (by rw [show T2.heap = h0 from e2]; exact Ar4.1) (State.isArrayOf_alike hZ.alike Ar4.2.1) (g := (mkF m 4 #[.val (.ref a1)] [(.ref a6)])) rfl rfl (hb hby d3_4) t (by rw [ln4]; exact k))
  by_cases c5_6 : n4 = (0 : Int32)
  · skip
    have pre7 : own_Go p e below (s₁.setTop (entryFrame m #[(.ref a1)] 1)) (T2.setTop (mkF m 9 #[.val (.ref a1)] [(.ref a1)])) := fun t k => pre5 t (by
        show Steps p.tables e below (T2.setTop (mkF m 5 #[.val (.ref a1)] [(.int n4)])) _
        refine XS.ifNo X2.here hx rfl (hb hby d3_5) rfl (XT.i0_ne_f c5_6) ?_
        show Steps p.tables e below (T2.setTop (mkF m 8 #[.val (.ref a1)] [])) _
        refine XS.aloadN X2.here hx rfl (hb hby d3_8) rfl rfl ?_
        exact k)
    obtain ⟨T8, X8, e8, st8⟩ := getF X2 hx hZ hown (host := "") (Or.inl (hw _ (List.mem_of_getElem? (i := 20) rfl))) Via.refl e2 F_q0 (g := (mkF m 9 #[.val (.ref a1)] [(.ref a1)])) rfl rfl (hb hby d3_9)
    have pre9 : own_Go p e below (s₁.setTop (entryFrame m #[(.ref a1)] 1)) (T8.setTop (mkF m 12 #[.val (.ref a1)] [(.int p4)])) := fun t k => pre7 t (st8 t k)
    have pre10 : own_Go p e below (s₁.setTop (entryFrame m #[(.ref a1)] 1)) (T8.setTop (mkF m 13 #[.val (.ref a1)] [(.ref a1), (.int p4)])) := fun t k => pre9 t (by
        show Steps p.tables e below (T8.setTop (mkF m 12 #[.val (.ref a1)] [(.int p4)])) _
        refine XS.aloadN X8.here hx rfl (hb hby d3_12) rfl rfl ?_
        exact k)
    obtain ⟨T11, X11, e11, st11⟩ := getF X8 hx hZ hown (host := "") (Or.inl (hw _ (List.mem_of_getElem? (i := 22) rfl))) Via.refl e8 F_q1 (g := (mkF m 13 #[.val (.ref a1)] [(.ref a1), (.int p4)])) rfl rfl (hb hby d3_13)
    have pre12 : own_Go p e below (s₁.setTop (entryFrame m #[(.ref a1)] 1)) (T11.setTop (mkF m 16 #[.val (.ref a1)] [(.int p5), (.int p4)])) := fun t k => pre10 t (st11 t k)
    by_cases c16_13 : p4 < p5
    · skip
      have pre14 : own_Go p e below (s₁.setTop (entryFrame m #[(.ref a1)] 1)) (T11.setTop (mkF m 24 #[.val (.ref a1)] [(.int (1 : Int32))])) := fun t k => pre12 t (by
          show Steps p.tables e below (T11.setTop (mkF m 16 #[.val (.ref a1)] [(.int p5), (.int p4)])) _
          refine XS.icmpNo X11.here hx rfl (hb hby d3_16) rfl (XT.ii_ge_f c16_13) ?_
          show Steps p.tables e below (T11.setTop (mkF m 19 #[.val (.ref a1)] [])) _
          refine XS.iconst X11.here hx rfl (hb hby d3_19) ?_
          show Steps p.tables e below (T11.setTop (mkF m 20 #[.val (.ref a1)] [(.int (1 : Int32))])) _
          refine XS.goto X11.here hx rfl (pc0 := 20) (pc' := 24) rfl (hb hby d3_20) (by decide) (by decide) ?_
          exact k)
      obtain ⟨fs, hr, hrun, hended, hW, hsame⟩ := X11.leave (v := some (.int (1 : Int32))) (fun h => by rw [Bd.returns] at h; cases h)
      refine ⟨_, _, pre14 _ ?_, hrun, hended, _, _, rfl, ?_, ⟨_, rfl⟩, hW, hsame.mono (by decide) (by decide)⟩
      · show Steps p.tables e below (T11.setTop (mkF m 24 #[.val (.ref a1)] [(.int (1 : Int32))])) _
        exact retN X11 hx (t := .boolean) Bd.returns (by simp) (hb hby d3_24) hr
      · show Q3 Z n4 p4 p5 h0 n0 _ T11.heap _
        rw [e11]
        exact ⟨congrArg (fun z => some (Value.int z)) (own_lo1 c5_6 c16_13).symm, N0, rfl⟩
    · skip
      have pre15 : own_Go p e below (s₁.setTop (entryFrame m #[(.ref a1)] 1)) (T11.setTop (mkF m 24 #[.val (.ref a1)] [(.int (0 : Int32))])) := fun t k => pre12 t (by
          show Steps p.tables e below (T11.setTop (mkF m 16 #[.val (.ref a1)] [(.int p5), (.int p4)])) _
          refine XS.icmpYes X11.here hx rfl (pc0 := 16) (pc' := 23) rfl (hb hby d3_16) rfl (XT.ii_ge_t c16_13) (by decide) (by decide) ?_
          show Steps p.tables e below (T11.setTop (mkF m 23 #[.val (.ref a1)] [])) _
          refine XS.iconst X11.here hx rfl (hb hby d3_23) ?_
          exact k)
      obtain ⟨fs, hr, hrun, hended, hW, hsame⟩ := X11.leave (v := some (.int (0 : Int32))) (fun h => by rw [Bd.returns] at h; cases h)
      refine ⟨_, _, pre15 _ ?_, hrun, hended, _, _, rfl, ?_, ⟨_, rfl⟩, hW, hsame.mono (by decide) (by decide)⟩
      · show Steps p.tables e below (T11.setTop (mkF m 24 #[.val (.ref a1)] [(.int (0 : Int32))])) _
        exact retN X11 hx (t := .boolean) Bd.returns (by simp) (hb hby d3_24) hr
      · show Q3 Z n4 p4 p5 h0 n0 _ T11.heap _
        rw [e11]
        exact ⟨congrArg (fun z => some (Value.int z)) (own_lo0 fun q => c16_13 q.2).symm, N0, rfl⟩
  · skip
    have pre16 : own_Go p e below (s₁.setTop (entryFrame m #[(.ref a1)] 1)) (T2.setTop (mkF m 24 #[.val (.ref a1)] [(.int (0 : Int32))])) := fun t k => pre5 t (by
        show Steps p.tables e below (T2.setTop (mkF m 5 #[.val (.ref a1)] [(.int n4)])) _
        refine XS.ifYes X2.here hx rfl (pc0 := 5) (pc' := 23) rfl (hb hby d3_5) rfl (XT.i0_ne_t c5_6) (by decide) (by decide) ?_
        show Steps p.tables e below (T2.setTop (mkF m 23 #[.val (.ref a1)] [])) _
        refine XS.iconst X2.here hx rfl (hb hby d3_23) ?_
        exact k)
    obtain ⟨fs, hr, hrun, hended, hW, hsame⟩ := X2.leave (v := some (.int (0 : Int32))) (fun h => by rw [Bd.returns] at h; cases h)
    refine ⟨_, _, pre16 _ ?_, hrun, hended, _, _, rfl, ?_, ⟨_, rfl⟩, hW, hsame.mono (by decide) (by decide)⟩
    · show Steps p.tables e below (T2.setTop (mkF m 24 #[.val (.ref a1)] [(.int (0 : Int32))])) _
      exact retN X2 hx (t := .boolean) Bd.returns (by simp) (hb hby d3_24) hr
    · show Q3 Z n4 p4 p5 h0 n0 _ T2.heap _
      rw [e2]
      exact ⟨congrArg (fun z => some (Value.int z)) (own_lo0 fun q => c5_6 q.1).symm, N0, rfl⟩
def Q0 (Z : State) (p1 p2 p3 p4 p5 p6 : Int32) (h0 : Heap) (n0 : Nat) (v : Option Value) (h : Heap) (L : List Loc) : Prop := v = some (.int (1 : Int32)) ∧ Fr n0 L
theorem pn_0 : plainName "com/example/mullion/mullion/client/ShellLeftOutPinLaw" = true := by first | (simp [plainName, overriddenIn]; done) | decide +kernel
theorem pd_0_0 : parseMethodDescriptor "(CCII[B)V" = some ⟨[.char, .char, .int, .int, (.array .byte)], none⟩ := by decide +kernel
theorem pd_0_1 : parseMethodDescriptor "()Z" = some ⟨[], some .boolean⟩ := by decide +kernel
theorem ef_0 (m : MethodId) (x0 : Int32) (x1 : Int32) (x2 : Int32) (x3 : Int32) (x4 : Int32) (x5 : Int32) : entryFrame m #[(.int x0), (.int x1), (.int x2), (.int x3), (.int x4), (.int x5)] maxLocals = mkF m 0 #[.val (.int x0), .val (.int x1), .val (.int x2), .val (.int x3), .val (.int x4), .val (.int x5), .unset, .unset, .unset, .unset, .unset, .unset] [] := by first | (simp [entryFrame, mkF, argsToLocals, Value.category, maxLocals]; done) | rfl
set_option maxRecDepth 65536 in
set_option maxHeartbeats 40000000 in
theorem rm0 (l : Launch) (Z : State) (a0 : Array Value) (hw : ∀ d ∈ tables_1, d.before a0 Z = true) (ws : List Jvm.Cond) (p1 p2 p3 p4 p5 p6 : Int32) (h0 : Heap) (n0 : Nat) (Z0 : n0 ≤ h0.size)  :
    MetFree l x (head1 (Jvm.Cond.code x code maxLocals ret :: ws) room_1) (fun a U => a = #[(.int p1), (.int p2), (.int p3), (.int p4), (.int p5), (.int p6)] ∧ Z.Warmed39 U.vm ∧ U.heap = h0) (fun _ _ _ _ _ => True) (fun _ U o U' => ∃ v L, o = .returned v ∧ Q0 Z p1 p2 p3 p4 p5 p6 h0 n0 v U'.heap L ∧ FrameEnd U o U' L room_1.cells room_1.slots) := by
  refine MetFree.of_bodySF (plainFor_of_name pn_0) hisR ?_
  intro p e s m args below meth c s₁ Bd hml0 hP hK
  obtain ⟨rfl, hZ, hh⟩ := hP
  have hx := Bd.exec
  have hby := Bd.bytes
  have hml : c.maxLocals = 12 := hml0
  have hown : s.vm.findClass "com/example/mullion/mullion/client/ShellLeftOutPinLaw" = some m.cls := findClass_of_methodNamed Bd.named
  have hnm := (name_of_methodNamed Bd.named Bd.method).1
  have X0 : Stand p l e room_1 s m #[(.int p1), (.int p2), (.int p3), (.int p4), (.int p5), (.int p6)] below meth c s₁ [] 0 0 := Stand.of_body Bd
  have e0 : s₁.heap = h0 := by rw [← hh, Bd.state]; rfl
  have N0 := Fr.nil n0
  have pre0 : own_Go p e below (s₁.setTop (entryFrame m #[(.int p1), (.int p2), (.int p3), (.int p4), (.int p5), (.int p6)] maxLocals)) (s₁.setTop (mkF m 0 #[.val (.int p1), .val (.int p2), .val (.int p3), .val (.int p4), .val (.int p5), .val (.int p6), .unset, .unset, .unset, .unset, .unset, .unset] [])) := fun t k => castTop (ef_0 m p1 p2 p3 p4 p5 p6) k
  have pre1 : own_Go p e below (s₁.setTop (entryFrame m #[(.int p1), (.int p2), (.int p3), (.int p4), (.int p5), (.int p6)] maxLocals)) (s₁.setTop (mkF m 4 #[.val (.int p1), .val (.int p2), .val (.int p3), .val (.int p4), .val (.int p5), .val (.int p6), .unset, .unset, .unset, .unset, .unset, .unset] [(.int (p5 &&& (3 : Int32)))])) := fun t k => pre0 t (by
      show Steps p.tables e below (s₁.setTop (mkF m 0 #[.val (.int p1), .val (.int p2), .val (.int p3), .val (.int p4), .val (.int p5), .val (.int p6), .unset, .unset, .unset, .unset, .unset, .unset] [])) _
      refine XS.iload X0.here hx rfl (hb hby at_0) rfl ?_
      show Steps p.tables e below (s₁.setTop (mkF m 2 #[.val (.int p1), .val (.int p2), .val (.int p3), .val (.int p4), .val (.int p5), .val (.int p6), .unset, .unset, .unset, .unset, .unset, .unset] [(.int p5)])) _
      refine XS.iconst X0.here hx rfl (hb hby at_2) ?_
      show Steps p.tables e below (s₁.setTop (mkF m 3 #[.val (.int p1), .val (.int p2), .val (.int p3), .val (.int p4), .val (.int p5), .val (.int p6), .unset, .unset, .unset, .unset, .unset, .unset] [(.int (3 : Int32)), (.int p5)])) _
      refine XS.iand X0.here hx rfl (hb hby at_3) rfl ?_
      exact k)
  obtain ⟨x6, e_x6, pre2⟩ : ∃ x6 : Int32, x6 = (p5 &&& (3 : Int32)) ∧ own_Go p e below (s₁.setTop (entryFrame m #[(.int p1), (.int p2), (.int p3), (.int p4), (.int p5), (.int p6)] maxLocals)) (s₁.setTop (mkF m 4 #[.val (.int p1), .val (.int p2), .val (.int p3), .val (.int p4), .val (.int p5), .val (.int p6), .unset, .unset, .unset, .unset, .unset, .unset] [(.int x6)])) := ⟨_, rfl, pre1⟩
  have h4 : x6 = 0 ∨ x6 = 1 ∨ x6 = 2 ∨ x6 = 3 := by rw [e_x6]; exact own_and3 p5
  clear e_x6
  rcases h4 with rfl | rfl | rfl | rfl
  · skip
    have pre3 : own_Go p e below (s₁.setTop (entryFrame m #[(.int p1), (.int p2), (.int p3), (.int p4), (.int p5), (.int p6)] maxLocals)) (s₁.setTop (mkF m 8 #[.val (.int p1), .val (.int p2), .val (.int p3), .val (.int p4), .val (.int p5), .val (.int p6), .val (.int (0 : Int32)), .unset, .unset, .unset, .unset, .unset] [(.int (0 : Int32))])) := fun t k => pre2 t (by
        show Steps p.tables e below (s₁.setTop (mkF m 4 #[.val (.int p1), .val (.int p2), .val (.int p3), .val (.int p4), .val (.int p5), .val (.int p6), .unset, .unset, .unset, .unset, .unset, .unset] [(.int (0 : Int32))])) _
        refine XS.istore X0.here hx rfl (hb hby at_4) rfl (l' := #[.val (.int p1), .val (.int p2), .val (.int p3), .val (.int p4), .val (.int p5), .val (.int p6), .val (.int (0 : Int32)), .unset, .unset, .unset, .unset, .unset]) rfl ?_
        show Steps p.tables e below (s₁.setTop (mkF m 6 #[.val (.int p1), .val (.int p2), .val (.int p3), .val (.int p4), .val (.int p5), .val (.int p6), .val (.int (0 : Int32)), .unset, .unset, .unset, .unset, .unset] [])) _
        refine XS.iload X0.here hx rfl (hb hby at_6) rfl ?_
        exact k)
    obtain ⟨T4, h4, k4, X4, e4, E4, A4, st4⟩ := newP X0 hx hZ (hw _ (List.mem_of_getElem? (i := 0) rfl)) e0 (g := (mkF m 8 #[.val (.int p1), .val (.int p2), .val (.int p3), .val (.int p4), .val (.int p5), .val (.int p6), .val (.int (0 : Int32)), .unset, .unset, .unset, .unset, .unset] [(.int (0 : Int32))])) rfl (hb hby at_8) rfl (by decide) (cap := 3) (by decide) (by decide) (by decide) (by decide)
    obtain ⟨b4, g4⟩ : ∃ z, z = h0.size := ⟨_, rfl⟩
    rw [← g4] at A4 st4
    have V4 := own_A.new A4 (by decide) rfl rfl
    have pre5 : own_Go p e below (s₁.setTop (entryFrame m #[(.int p1), (.int p2), (.int p3), (.int p4), (.int p5), (.int p6)] maxLocals)) (T4.setTop (mkF m 10 #[.val (.int p1), .val (.int p2), .val (.int p3), .val (.int p4), .val (.int p5), .val (.int p6), .val (.int (0 : Int32)), .unset, .unset, .unset, .unset, .unset] [(.ref b4)])) := fun t k => pre3 t (st4 t k)
    have K_6 := (Keep.refl h0 []).ext E4
    have sz_b4 : h0.size ≤ b4 := Nat.le_trans (Keep.refl h0 []).1 (Nat.le_of_eq g4.symm)
    have g_b4 : n0 ≤ b4 := Nat.le_trans Z0 sz_b4
    have pre7 : own_Go p e below (s₁.setTop (entryFrame m #[(.int p1), (.int p2), (.int p3), (.int p4), (.int p5), (.int p6)] maxLocals)) (T4.setTop (mkF m 56 #[.val (.int p1), .val (.int p2), .val (.int p3), .val (.int p4), .val (.int p5), .val (.int p6), .val (.int (0 : Int32)), .val (.ref b4), .unset, .unset, .unset, .unset] [])) := fun t k => pre5 t (by
        show Steps p.tables e below (T4.setTop (mkF m 10 #[.val (.int p1), .val (.int p2), .val (.int p3), .val (.int p4), .val (.int p5), .val (.int p6), .val (.int (0 : Int32)), .unset, .unset, .unset, .unset, .unset] [(.ref b4)])) _
        refine XS.astore X4.here hx rfl (hb hby at_10) rfl rfl (l' := #[.val (.int p1), .val (.int p2), .val (.int p3), .val (.int p4), .val (.int p5), .val (.int p6), .val (.int (0 : Int32)), .val (.ref b4), .unset, .unset, .unset, .unset]) rfl ?_
        show Steps p.tables e below (T4.setTop (mkF m 12 #[.val (.int p1), .val (.int p2), .val (.int p3), .val (.int p4), .val (.int p5), .val (.int p6), .val (.int (0 : Int32)), .val (.ref b4), .unset, .unset, .unset, .unset] [])) _
        refine XS.iload X4.here hx rfl (hb hby at_12) rfl ?_
        show Steps p.tables e below (T4.setTop (mkF m 14 #[.val (.int p1), .val (.int p2), .val (.int p3), .val (.int p4), .val (.int p5), .val (.int p6), .val (.int (0 : Int32)), .val (.ref b4), .unset, .unset, .unset, .unset] [(.int (0 : Int32))])) _
        refine XS.ifYes X4.here hx rfl (pc0 := 14) (pc' := 24) rfl (hb hby at_14) rfl (XT.i0_le_t (by decide)) (by decide) (by decide) ?_
        show Steps p.tables e below (T4.setTop (mkF m 24 #[.val (.int p1), .val (.int p2), .val (.int p3), .val (.int p4), .val (.int p5), .val (.int p6), .val (.int (0 : Int32)), .val (.ref b4), .unset, .unset, .unset, .unset] [])) _
        refine XS.iload X4.here hx rfl (hb hby at_24) rfl ?_
        show Steps p.tables e below (T4.setTop (mkF m 26 #[.val (.int p1), .val (.int p2), .val (.int p3), .val (.int p4), .val (.int p5), .val (.int p6), .val (.int (0 : Int32)), .val (.ref b4), .unset, .unset, .unset, .unset] [(.int (0 : Int32))])) _
        refine XS.iconst X4.here hx rfl (hb hby at_26) ?_
        show Steps p.tables e below (T4.setTop (mkF m 27 #[.val (.int p1), .val (.int p2), .val (.int p3), .val (.int p4), .val (.int p5), .val (.int p6), .val (.int (0 : Int32)), .val (.ref b4), .unset, .unset, .unset, .unset] [(.int (1 : Int32)), (.int (0 : Int32))])) _
        refine XS.icmpYes X4.here hx rfl (pc0 := 27) (pc' := 40) rfl (hb hby at_27) rfl (XT.ii_le_t (by decide)) (by decide) (by decide) ?_
        show Steps p.tables e below (T4.setTop (mkF m 40 #[.val (.int p1), .val (.int p2), .val (.int p3), .val (.int p4), .val (.int p5), .val (.int p6), .val (.int (0 : Int32)), .val (.ref b4), .unset, .unset, .unset, .unset] [])) _
        refine XS.iload X4.here hx rfl (hb hby at_40) rfl ?_
        show Steps p.tables e below (T4.setTop (mkF m 42 #[.val (.int p1), .val (.int p2), .val (.int p3), .val (.int p4), .val (.int p5), .val (.int p6), .val (.int (0 : Int32)), .val (.ref b4), .unset, .unset, .unset, .unset] [(.int (0 : Int32))])) _
        refine XS.iconst X4.here hx rfl (hb hby at_42) ?_
        show Steps p.tables e below (T4.setTop (mkF m 43 #[.val (.int p1), .val (.int p2), .val (.int p3), .val (.int p4), .val (.int p5), .val (.int p6), .val (.int (0 : Int32)), .val (.ref b4), .unset, .unset, .unset, .unset] [(.int (2 : Int32)), (.int (0 : Int32))])) _
        refine XS.icmpYes X4.here hx rfl (pc0 := 43) (pc' := 56) rfl (hb hby at_43) rfl (XT.ii_le_t (by decide)) (by decide) (by decide) ?_
        exact k)
    obtain ⟨T8, h8, X8, e8, E8, A8, D8, -, st8⟩ := newO X4 hx hZ hown (hw _ (List.mem_of_getElem? (i := 1) rfl)) (hw _ (List.mem_of_getElem? (i := 2) rfl)) (hw _ (List.mem_of_getElem? (i := 3) rfl)) e4 (g := (mkF m 56 #[.val (.int p1), .val (.int p2), .val (.int p3), .val (.int p4), .val (.int p5), .val (.int p6), .val (.int (0 : Int32)), .val (.ref b4), .unset, .unset, .unset, .unset] [])) rfl (hb hby at_56) (by decide) (by decide)
    obtain ⟨b8, g8⟩ : ∃ z, z = h4.size := ⟨_, rfl⟩
    rw [← g8] at A8 D8 st8
    have pre9 : own_Go p e below (s₁.setTop (entryFrame m #[(.int p1), (.int p2), (.int p3), (.int p4), (.int p5), (.int p6)] maxLocals)) (T8.setTop (mkF m 59 #[.val (.int p1), .val (.int p2), .val (.int p3), .val (.int p4), .val (.int p5), .val (.int p6), .val (.int (0 : Int32)), .val (.ref b4), .unset, .unset, .unset, .unset] [(.ref b8)])) := fun t k => pre7 t (st8 t k)
    have V_10 := V4.ext E8
    have K_11 := K_6.ext E8
    have ne_b4_b8 : b4 ≠ b8 := Nat.ne_of_lt (Nat.lt_of_lt_of_eq V4.lt g8.symm)
    have sz_b8 : h0.size ≤ b8 := Nat.le_trans K_6.1 (Nat.le_of_eq g8.symm)
    have g_b8 : n0 ≤ b8 := Nat.le_trans Z0 sz_b8
    have F_origin_8 : Fld Z h8 b8 "com/example/mullion/mullion/client/Shell$Event" "origin" "C" (.int (0 : Int32)) := D8 (Or.inr (hw _ (List.mem_of_getElem? (i := 17) rfl))) (ty := .char) (by decide)
    have F_kind_8 : Fld Z h8 b8 "com/example/mullion/mullion/client/Shell$Event" "kind" "C" (.int (0 : Int32)) := D8 (Or.inr (hw _ (List.mem_of_getElem? (i := 19) rfl))) (ty := .char) (by decide)
    have F_q0_8 : Fld Z h8 b8 "com/example/mullion/mullion/client/Shell$Event" "q0" "I" (.int (0 : Int32)) := D8 (Or.inr (hw _ (List.mem_of_getElem? (i := 21) rfl))) (ty := .int) (by decide)
    have F_q1_8 : Fld Z h8 b8 "com/example/mullion/mullion/client/Shell$Event" "q1" "I" (.int (0 : Int32)) := D8 (Or.inr (hw _ (List.mem_of_getElem? (i := 23) rfl))) (ty := .int) (by decide)
    have F_text_8 : Fld Z h8 b8 "com/example/mullion/mullion/client/Shell$Event" "text" "[B" .null := D8 (Or.inr (hw _ (List.mem_of_getElem? (i := 25) rfl))) (ty := (.array .byte)) (by decide)
    have pre12 : own_Go p e below (s₁.setTop (entryFrame m #[(.int p1), (.int p2), (.int p3), (.int p4), (.int p5), (.int p6)] maxLocals)) (T8.setTop (mkF m 65 #[.val (.int p1), .val (.int p2), .val (.int p3), .val (.int p4), .val (.int p5), .val (.int p6), .val (.int (0 : Int32)), .val (.ref b4), .unset, .unset, .unset, .unset] [(.int ((p1 &&& (65535 : Int32)).toUInt32.toUInt16.toUInt32.toInt32)), (.ref b8), (.ref b8)])) := fun t k => pre9 t (by
        show Steps p.tables e below (T8.setTop (mkF m 59 #[.val (.int p1), .val (.int p2), .val (.int p3), .val (.int p4), .val (.int p5), .val (.int p6), .val (.int (0 : Int32)), .val (.ref b4), .unset, .unset, .unset, .unset] [(.ref b8)])) _
        refine XS.dup X8.here hx rfl (hb hby at_59) rfl rfl ?_
        show Steps p.tables e below (T8.setTop (mkF m 60 #[.val (.int p1), .val (.int p2), .val (.int p3), .val (.int p4), .val (.int p5), .val (.int p6), .val (.int (0 : Int32)), .val (.ref b4), .unset, .unset, .unset, .unset] [(.ref b8), (.ref b8)])) _
        refine XS.iloadN X8.here hx rfl (hb hby at_60) rfl ?_
        show Steps p.tables e below (T8.setTop (mkF m 61 #[.val (.int p1), .val (.int p2), .val (.int p3), .val (.int p4), .val (.int p5), .val (.int p6), .val (.int (0 : Int32)), .val (.ref b4), .unset, .unset, .unset, .unset] [(.int p1), (.ref b8), (.ref b8)])) _
        refine X8.ldcI hx hown (mvT hZ (hw _ (List.mem_of_getElem? (i := 4) rfl))) rfl (hb hby at_61) ?_
        show Steps p.tables e below (T8.setTop (mkF m 63 #[.val (.int p1), .val (.int p2), .val (.int p3), .val (.int p4), .val (.int p5), .val (.int p6), .val (.int (0 : Int32)), .val (.ref b4), .unset, .unset, .unset, .unset] [(.int (65535 : Int32)), (.int p1), (.ref b8), (.ref b8)])) _
        refine XS.iand X8.here hx rfl (hb hby at_63) rfl ?_
        show Steps p.tables e below (T8.setTop (mkF m 64 #[.val (.int p1), .val (.int p2), .val (.int p3), .val (.int p4), .val (.int p5), .val (.int p6), .val (.int (0 : Int32)), .val (.ref b4), .unset, .unset, .unset, .unset] [(.int (p1 &&& (65535 : Int32))), (.ref b8), (.ref b8)])) _
        refine XT.i2c X8.here hx rfl (hb hby at_64) rfl ?_
        exact k)
    obtain ⟨o1, e_o1, pre13⟩ : ∃ o1 : Int32, o1 = ((p1 &&& (65535 : Int32)).toUInt32.toUInt16.toUInt32.toInt32) ∧ own_Go p e below (s₁.setTop (entryFrame m #[(.int p1), (.int p2), (.int p3), (.int p4), (.int p5), (.int p6)] maxLocals)) (T8.setTop (mkF m 65 #[.val (.int p1), .val (.int p2), .val (.int p3), .val (.int p4), .val (.int p5), .val (.int p6), .val (.int (0 : Int32)), .val (.ref b4), .unset, .unset, .unset, .unset] [(.int o1), (.ref b8), (.ref b8)])) := ⟨_, rfl, pre12⟩
    have pre14 : own_Go p e below (s₁.setTop (entryFrame m #[(.int p1), (.int p2), (.int p3), (.int p4), (.int p5), (.int p6)] maxLocals)) (T8.setTop (mkF m 70 #[.val (.int p1), .val (.int p2), .val (.int p3), .val (.int p4), .val (.int p5), .val (.int p6), .val (.int (0 : Int32)), .val (.ref b4), .unset, .unset, .unset, .unset] [(.int ((p2 &&& (65535 : Int32)).toUInt32.toUInt16.toUInt32.toInt32)), (.int o1), (.ref b8), (.ref b8)])) := fun t k => pre13 t (by
        show Steps p.tables e below (T8.setTop (mkF m 65 #[.val (.int p1), .val (.int p2), .val (.int p3), .val (.int p4), .val (.int p5), .val (.int p6), .val (.int (0 : Int32)), .val (.ref b4), .unset, .unset, .unset, .unset] [(.int o1), (.ref b8), (.ref b8)])) _
        refine XS.iloadN X8.here hx rfl (hb hby at_65) rfl ?_
        show Steps p.tables e below (T8.setTop (mkF m 66 #[.val (.int p1), .val (.int p2), .val (.int p3), .val (.int p4), .val (.int p5), .val (.int p6), .val (.int (0 : Int32)), .val (.ref b4), .unset, .unset, .unset, .unset] [(.int p2), (.int o1), (.ref b8), (.ref b8)])) _
        refine X8.ldcI hx hown (mvT hZ (hw _ (List.mem_of_getElem? (i := 4) rfl))) rfl (hb hby at_66) ?_
        show Steps p.tables e below (T8.setTop (mkF m 68 #[.val (.int p1), .val (.int p2), .val (.int p3), .val (.int p4), .val (.int p5), .val (.int p6), .val (.int (0 : Int32)), .val (.ref b4), .unset, .unset, .unset, .unset] [(.int (65535 : Int32)), (.int p2), (.int o1), (.ref b8), (.ref b8)])) _
        refine XS.iand X8.here hx rfl (hb hby at_68) rfl ?_
        show Steps p.tables e below (T8.setTop (mkF m 69 #[.val (.int p1), .val (.int p2), .val (.int p3), .val (.int p4), .val (.int p5), .val (.int p6), .val (.int (0 : Int32)), .val (.ref b4), .unset, .unset, .unset, .unset] [(.int (p2 &&& (65535 : Int32))), (.int o1), (.ref b8), (.ref b8)])) _
        refine XT.i2c X8.here hx rfl (hb hby at_69) rfl ?_
        exact k)
    obtain ⟨k1, e_k1, pre15⟩ : ∃ k1 : Int32, k1 = ((p2 &&& (65535 : Int32)).toUInt32.toUInt16.toUInt32.toInt32) ∧ own_Go p e below (s₁.setTop (entryFrame m #[(.int p1), (.int p2), (.int p3), (.int p4), (.int p5), (.int p6)] maxLocals)) (T8.setTop (mkF m 70 #[.val (.int p1), .val (.int p2), .val (.int p3), .val (.int p4), .val (.int p5), .val (.int p6), .val (.int (0 : Int32)), .val (.ref b4), .unset, .unset, .unset, .unset] [(.int k1), (.int o1), (.ref b8), (.ref b8)])) := ⟨_, rfl, pre14⟩
    have Z1 : n0 ≤ h8.size := Nat.le_trans Z0 K_11.1
    have pre16 : own_Go p e below (s₁.setTop (entryFrame m #[(.int p1), (.int p2), (.int p3), (.int p4), (.int p5), (.int p6)] maxLocals)) (T8.setTop (mkF m 74 #[.val (.int p1), .val (.int p2), .val (.int p3), .val (.int p4), .val (.int p5), .val (.int p6), .val (.int (0 : Int32)), .val (.ref b4), .unset, .unset, .unset, .unset] [(.ref b4), (.int p4), (.int p3), (.int k1), (.int o1), (.ref b8), (.ref b8)])) := fun t k => pre15 t (by
        show Steps p.tables e below (T8.setTop (mkF m 70 #[.val (.int p1), .val (.int p2), .val (.int p3), .val (.int p4), .val (.int p5), .val (.int p6), .val (.int (0 : Int32)), .val (.ref b4), .unset, .unset, .unset, .unset] [(.int k1), (.int o1), (.ref b8), (.ref b8)])) _
        refine XS.iloadN X8.here hx rfl (hb hby at_70) rfl ?_
        show Steps p.tables e below (T8.setTop (mkF m 71 #[.val (.int p1), .val (.int p2), .val (.int p3), .val (.int p4), .val (.int p5), .val (.int p6), .val (.int (0 : Int32)), .val (.ref b4), .unset, .unset, .unset, .unset] [(.int p3), (.int k1), (.int o1), (.ref b8), (.ref b8)])) _
        refine XS.iloadN X8.here hx rfl (hb hby at_71) rfl ?_
        show Steps p.tables e below (T8.setTop (mkF m 72 #[.val (.int p1), .val (.int p2), .val (.int p3), .val (.int p4), .val (.int p5), .val (.int p6), .val (.int (0 : Int32)), .val (.ref b4), .unset, .unset, .unset, .unset] [(.int p4), (.int p3), (.int k1), (.int o1), (.ref b8), (.ref b8)])) _
        refine XS.aload X8.here hx rfl (hb hby at_72) rfl rfl ?_
        exact k)
    obtain ⟨_, _, ⟨T17, L17, k17, n17⟩, -, X17, ⟨Lc17, hQ17, l17, y17, z17⟩, st17⟩ := X8.specialBack hx (y := (⟨"com/example/mullion/mullion/client/Shell$Event", "<init>", "(CCII[B)V"⟩ : MethodName)) rfl hown (mvT hZ (hw _ (List.mem_of_getElem? (i := 5) rfl))) (mvT hZ (hw _ (List.mem_of_getElem? (i := 6) rfl))) (mvT hZ (hw _ (List.mem_of_getElem? (i := 7) rfl))) (by decide) (backOf (W := 1) (rm2 l Z a0 hw [] b8 o1 k1 p3 p4 b4 h8 n0 Z1 A8 F_origin_8 F_kind_8 F_q0_8 F_q1_8 F_text_8 g_b8) hZ (hw _ (List.mem_of_getElem? (i := 7) rfl)) (hw _ (List.mem_of_getElem? (i := 3) rfl)) (by decide) (by decide)) (g := (mkF m 74 #[.val (.int p1), .val (.int p2), .val (.int p3), .val (.int p4), .val (.int p5), .val (.int p6), .val (.int (0 : Int32)), .val (.ref b4), .unset, .unset, .unset, .unset] [(.ref b4), (.int p4), (.int p3), (.int k1), (.int o1), (.ref b8), (.ref b8)])) rfl (by rw [hml]; rfl) (Steps.refl _) (a := b8) (argsL := [(.int o1), (.int k1), (.int p3), (.int p4), (.ref b4)]) (rest := [(.ref b8)]) (lenOf pd_0_0 rfl) rfl (by show 2 * 0 + _ ≤ _; exact Nat.le_of_eq rfl) (hb hby at_74) (fun _ _ => ⟨rfl, e8, (by decide : 2 + 0 ≤ _), (by decide : 8 + 0 ≤ _)⟩)
    dsimp only [Pt.U, Pt.locs, Pt.cells, Pt.slots] at X17 l17 y17 z17 st17 hQ17
    subst l17 y17 z17
    obtain ⟨rfl, N17q, K17, Fq017, Fq117, Ft17⟩ := hQ17
    have N17 := Fr.app N0 N17q
    have pre18 : own_Go p e below (s₁.setTop (entryFrame m #[(.int p1), (.int p2), (.int p3), (.int p4), (.int p5), (.int p6)] maxLocals)) (T17.setTop (mkF m 77 #[.val (.int p1), .val (.int p2), .val (.int p3), .val (.int p4), .val (.int p5), .val (.int p6), .val (.int (0 : Int32)), .val (.ref b4), .unset, .unset, .unset, .unset] [(.ref b8)])) := fun t k => pre16 t (st17.trans k)
    have Ex_19 := A8.keep K17
    have V_20 := V_10.keep K17 (ninS ne_b4_b8 nin0)
    have K_21 := K_11.trans K17 (allS (Or.inr sz_b8) all0)
    have Z2 : n0 ≤ T17.heap.size := Nat.le_trans Z0 K_21.1
    have pre22 : own_Go p e below (s₁.setTop (entryFrame m #[(.int p1), (.int p2), (.int p3), (.int p4), (.int p5), (.int p6)] maxLocals)) (T17.setTop (mkF m 101 #[.val (.int p1), .val (.int p2), .val (.int p3), .val (.int p4), .val (.int p5), .val (.int p6), .val (.int (0 : Int32)), .val (.ref b4), .val (.ref b8), .unset, .val (.long ((p4.toInt64) - (p3.toInt64))), .second] [(.int (XT.cmpL ((p4.toInt64) - (p3.toInt64)) (0 : Int64)))])) := fun t k => pre18 t (by
        show Steps p.tables e below (T17.setTop (mkF m 77 #[.val (.int p1), .val (.int p2), .val (.int p3), .val (.int p4), .val (.int p5), .val (.int p6), .val (.int (0 : Int32)), .val (.ref b4), .unset, .unset, .unset, .unset] [(.ref b8)])) _
        refine XS.astore X17.here hx rfl (hb hby at_77) rfl rfl (l' := #[.val (.int p1), .val (.int p2), .val (.int p3), .val (.int p4), .val (.int p5), .val (.int p6), .val (.int (0 : Int32)), .val (.ref b4), .val (.ref b8), .unset, .unset, .unset]) rfl ?_
        show Steps p.tables e below (T17.setTop (mkF m 79 #[.val (.int p1), .val (.int p2), .val (.int p3), .val (.int p4), .val (.int p5), .val (.int p6), .val (.int (0 : Int32)), .val (.ref b4), .val (.ref b8), .unset, .unset, .unset] [])) _
        refine XS.iload X17.here hx rfl (hb hby at_79) rfl ?_
        show Steps p.tables e below (T17.setTop (mkF m 81 #[.val (.int p1), .val (.int p2), .val (.int p3), .val (.int p4), .val (.int p5), .val (.int p6), .val (.int (0 : Int32)), .val (.ref b4), .val (.ref b8), .unset, .unset, .unset] [(.int (0 : Int32))])) _
        refine XS.ifYes X17.here hx rfl (pc0 := 81) (pc' := 90) rfl (hb hby at_81) rfl (XT.i0_eq_t (by decide)) (by decide) (by decide) ?_
        show Steps p.tables e below (T17.setTop (mkF m 90 #[.val (.int p1), .val (.int p2), .val (.int p3), .val (.int p4), .val (.int p5), .val (.int p6), .val (.int (0 : Int32)), .val (.ref b4), .val (.ref b8), .unset, .unset, .unset] [])) _
        refine XS.iloadN X17.here hx rfl (hb hby at_90) rfl ?_
        show Steps p.tables e below (T17.setTop (mkF m 91 #[.val (.int p1), .val (.int p2), .val (.int p3), .val (.int p4), .val (.int p5), .val (.int p6), .val (.int (0 : Int32)), .val (.ref b4), .val (.ref b8), .unset, .unset, .unset] [(.int p4)])) _
        refine XT.i2l X17.here hx rfl (hb hby at_91) rfl ?_
        show Steps p.tables e below (T17.setTop (mkF m 92 #[.val (.int p1), .val (.int p2), .val (.int p3), .val (.int p4), .val (.int p5), .val (.int p6), .val (.int (0 : Int32)), .val (.ref b4), .val (.ref b8), .unset, .unset, .unset] [(.long (p4.toInt64))])) _
        refine XS.iloadN X17.here hx rfl (hb hby at_92) rfl ?_
        show Steps p.tables e below (T17.setTop (mkF m 93 #[.val (.int p1), .val (.int p2), .val (.int p3), .val (.int p4), .val (.int p5), .val (.int p6), .val (.int (0 : Int32)), .val (.ref b4), .val (.ref b8), .unset, .unset, .unset] [(.int p3), (.long (p4.toInt64))])) _
        refine XT.i2l X17.here hx rfl (hb hby at_93) rfl ?_
        show Steps p.tables e below (T17.setTop (mkF m 94 #[.val (.int p1), .val (.int p2), .val (.int p3), .val (.int p4), .val (.int p5), .val (.int p6), .val (.int (0 : Int32)), .val (.ref b4), .val (.ref b8), .unset, .unset, .unset] [(.long (p3.toInt64)), (.long (p4.toInt64))])) _
        refine XT.lsub X17.here hx rfl (hb hby at_94) rfl ?_
        show Steps p.tables e below (T17.setTop (mkF m 95 #[.val (.int p1), .val (.int p2), .val (.int p3), .val (.int p4), .val (.int p5), .val (.int p6), .val (.int (0 : Int32)), .val (.ref b4), .val (.ref b8), .unset, .unset, .unset] [(.long ((p4.toInt64) - (p3.toInt64)))])) _
        refine XT.lstore X17.here hx rfl (hb hby at_95) rfl (l' := #[.val (.int p1), .val (.int p2), .val (.int p3), .val (.int p4), .val (.int p5), .val (.int p6), .val (.int (0 : Int32)), .val (.ref b4), .val (.ref b8), .unset, .val (.long ((p4.toInt64) - (p3.toInt64))), .second]) rfl ?_
        show Steps p.tables e below (T17.setTop (mkF m 97 #[.val (.int p1), .val (.int p2), .val (.int p3), .val (.int p4), .val (.int p5), .val (.int p6), .val (.int (0 : Int32)), .val (.ref b4), .val (.ref b8), .unset, .val (.long ((p4.toInt64) - (p3.toInt64))), .second] [])) _
        refine XT.lload X17.here hx rfl (hb hby at_97) rfl ?_
        show Steps p.tables e below (T17.setTop (mkF m 99 #[.val (.int p1), .val (.int p2), .val (.int p3), .val (.int p4), .val (.int p5), .val (.int p6), .val (.int (0 : Int32)), .val (.ref b4), .val (.ref b8), .unset, .val (.long ((p4.toInt64) - (p3.toInt64))), .second] [(.long ((p4.toInt64) - (p3.toInt64)))])) _
        refine XT.lconst X17.here hx rfl (hb hby at_99) ?_
        show Steps p.tables e below (T17.setTop (mkF m 100 #[.val (.int p1), .val (.int p2), .val (.int p3), .val (.int p4), .val (.int p5), .val (.int p6), .val (.int (0 : Int32)), .val (.ref b4), .val (.ref b8), .unset, .val (.long ((p4.toInt64) - (p3.toInt64))), .second] [(.long (0 : Int64)), (.long ((p4.toInt64) - (p3.toInt64)))])) _
        refine XT.lcmp X17.here hx rfl (hb hby at_100) rfl ?_
        exact k)
    obtain ⟨x9, hx9, pre23⟩ : ∃ x9 : Int32, x9 = own_lo 0 p3 p4 ∧ own_Go p e below (s₁.setTop (entryFrame m #[(.int p1), (.int p2), (.int p3), (.int p4), (.int p5), (.int p6)] maxLocals)) (T17.setTop (mkF m 111 #[.val (.int p1), .val (.int p2), .val (.int p3), .val (.int p4), .val (.int p5), .val (.int p6), .val (.int (0 : Int32)), .val (.ref b4), .val (.ref b8), .val (.int x9), .val (.long (p4.toInt64 - p3.toInt64)), .second] [])) := by
      by_cases c101_24 : (0 : Int64) < ((p4.toInt64) - (p3.toInt64))
      · skip
        refine ⟨_, (own_lo1 rfl ((own_width p3 p4).mp c101_24)).symm, fun t k => pre22 t ?_⟩
        show Steps p.tables e below (T17.setTop (mkF m 101 #[.val (.int p1), .val (.int p2), .val (.int p3), .val (.int p4), .val (.int p5), .val (.int p6), .val (.int (0 : Int32)), .val (.ref b4), .val (.ref b8), .unset, .val (.long ((p4.toInt64) - (p3.toInt64))), .second] [(.int (XT.cmpL ((p4.toInt64) - (p3.toInt64)) (0 : Int64)))])) _
        refine XS.ifNo X17.here hx rfl (hb hby at_101) rfl (XT.ll_le_f c101_24) ?_
        show Steps p.tables e below (T17.setTop (mkF m 104 #[.val (.int p1), .val (.int p2), .val (.int p3), .val (.int p4), .val (.int p5), .val (.int p6), .val (.int (0 : Int32)), .val (.ref b4), .val (.ref b8), .unset, .val (.long ((p4.toInt64) - (p3.toInt64))), .second] [])) _
        refine XS.iconst X17.here hx rfl (hb hby at_104) ?_
        show Steps p.tables e below (T17.setTop (mkF m 105 #[.val (.int p1), .val (.int p2), .val (.int p3), .val (.int p4), .val (.int p5), .val (.int p6), .val (.int (0 : Int32)), .val (.ref b4), .val (.ref b8), .unset, .val (.long ((p4.toInt64) - (p3.toInt64))), .second] [(.int (1 : Int32))])) _
        refine XS.goto X17.here hx rfl (pc0 := 105) (pc' := 109) rfl (hb hby at_105) (by decide) (by decide) ?_
        show Steps p.tables e below (T17.setTop (mkF m 109 #[.val (.int p1), .val (.int p2), .val (.int p3), .val (.int p4), .val (.int p5), .val (.int p6), .val (.int (0 : Int32)), .val (.ref b4), .val (.ref b8), .unset, .val (.long ((p4.toInt64) - (p3.toInt64))), .second] [(.int (1 : Int32))])) _
        refine XS.istore X17.here hx rfl (hb hby at_109) rfl (l' := #[.val (.int p1), .val (.int p2), .val (.int p3), .val (.int p4), .val (.int p5), .val (.int p6), .val (.int (0 : Int32)), .val (.ref b4), .val (.ref b8), .val (.int (1 : Int32)), .val (.long ((p4.toInt64) - (p3.toInt64))), .second]) rfl ?_
        exact k
      · skip
        refine ⟨_, (own_lo0 fun q => c101_24 ((own_width p3 p4).mpr q.2)).symm, fun t k => pre22 t ?_⟩
        show Steps p.tables e below (T17.setTop (mkF m 101 #[.val (.int p1), .val (.int p2), .val (.int p3), .val (.int p4), .val (.int p5), .val (.int p6), .val (.int (0 : Int32)), .val (.ref b4), .val (.ref b8), .unset, .val (.long ((p4.toInt64) - (p3.toInt64))), .second] [(.int (XT.cmpL ((p4.toInt64) - (p3.toInt64)) (0 : Int64)))])) _
        refine XS.ifYes X17.here hx rfl (pc0 := 101) (pc' := 108) rfl (hb hby at_101) rfl (XT.ll_le_t c101_24) (by decide) (by decide) ?_
        show Steps p.tables e below (T17.setTop (mkF m 108 #[.val (.int p1), .val (.int p2), .val (.int p3), .val (.int p4), .val (.int p5), .val (.int p6), .val (.int (0 : Int32)), .val (.ref b4), .val (.ref b8), .unset, .val (.long ((p4.toInt64) - (p3.toInt64))), .second] [])) _
        refine XS.iconst X17.here hx rfl (hb hby at_108) ?_
        show Steps p.tables e below (T17.setTop (mkF m 109 #[.val (.int p1), .val (.int p2), .val (.int p3), .val (.int p4), .val (.int p5), .val (.int p6), .val (.int (0 : Int32)), .val (.ref b4), .val (.ref b8), .unset, .val (.long ((p4.toInt64) - (p3.toInt64))), .second] [(.int (0 : Int32))])) _
        refine XS.istore X17.here hx rfl (hb hby at_109) rfl (l' := #[.val (.int p1), .val (.int p2), .val (.int p3), .val (.int p4), .val (.int p5), .val (.int p6), .val (.int (0 : Int32)), .val (.ref b4), .val (.ref b8), .val (.int (0 : Int32)), .val (.long ((p4.toInt64) - (p3.toInt64))), .second]) rfl ?_
        exact k
    have pre25 : own_Go p e below (s₁.setTop (entryFrame m #[(.int p1), (.int p2), (.int p3), (.int p4), (.int p5), (.int p6)] maxLocals)) (T17.setTop (mkF m 113 #[.val (.int p1), .val (.int p2), .val (.int p3), .val (.int p4), .val (.int p5), .val (.int p6), .val (.int (0 : Int32)), .val (.ref b4), .val (.ref b8), .val (.int x9), .val (.long (p4.toInt64 - p3.toInt64)), .second] [(.ref b8)])) := fun t k => pre23 t (by
        show Steps p.tables e below (T17.setTop (mkF m 111 #[.val (.int p1), .val (.int p2), .val (.int p3), .val (.int p4), .val (.int p5), .val (.int p6), .val (.int (0 : Int32)), .val (.ref b4), .val (.ref b8), .val (.int x9), .val (.long (p4.toInt64 - p3.toInt64)), .second] [])) _
        refine XS.aload X17.here hx rfl (hb hby at_111) rfl rfl ?_
        exact k)
    obtain ⟨cq26, kq26, q26a, q26b, q26c⟩ := isOf hZ rfl Ex_19
    obtain ⟨_, _, ⟨T26, L26, k26, n26⟩, -, X26, ⟨Lc26, hQ26, l26, y26, z26⟩, st26⟩ := X17.virtualBack hx (y := (⟨"com/example/mullion/mullion/client/Shell$Event", "leftOut", "()Z"⟩ : MethodName)) (z := (⟨"com/example/mullion/mullion/client/Shell$Event", "leftOut", "()Z"⟩ : MethodName)) hown (mvT hZ (hw _ (List.mem_of_getElem? (i := 26) rfl))) (mvT hZ (hw _ (List.mem_of_getElem? (i := 27) rfl))) (notFace_of_selects (args := #[]) (mvT hZ (hw _ (List.mem_of_getElem? (i := 29) rfl)))) (mvT hZ (hw _ (List.mem_of_getElem? (i := 29) rfl))) (mvT hZ (hw _ (List.mem_of_getElem? (i := 28) rfl))) (by decide) (backOf (W := 0) (rm3 l Z a0 hw [] b8 p3 p4 b4 (0 : Int32) _ T17.heap n0 Z2 Fq017 Fq117 Ft17 V_20) hZ (hw _ (List.mem_of_getElem? (i := 30) rfl)) (hw _ (List.mem_of_getElem? (i := 3) rfl)) (by decide) (by decide)) q26a q26c (g := (mkF m 113 #[.val (.int p1), .val (.int p2), .val (.int p3), .val (.int p4), .val (.int p5), .val (.int p6), .val (.int (0 : Int32)), .val (.ref b4), .val (.ref b8), .val (.int x9), .val (.long (p4.toInt64 - p3.toInt64)), .second] [(.ref b8)])) rfl (by rw [hml]; rfl) (Steps.refl _) (argsL := []) (rest := []) (lenOf pd_0_1 rfl) rfl (by show 2 * 0 + _ ≤ _; exact Nat.le_of_eq rfl) (hb hby at_113) (fun _ _ => ⟨rfl, rfl, (by decide : 2 + 0 ≤ _), (by decide : 8 + 0 ≤ _)⟩)
    dsimp only [Pt.U, Pt.locs, Pt.cells, Pt.slots] at X26 l26 y26 z26 st26 hQ26
    subst l26 y26 z26
    obtain ⟨rfl, N26q, hh26⟩ := hQ26
    have N26 := Fr.app N17 N26q
    have pre27 : own_Go p e below (s₁.setTop (entryFrame m #[(.int p1), (.int p2), (.int p3), (.int p4), (.int p5), (.int p6)] maxLocals)) (T26.setTop (mkF m 116 #[.val (.int p1), .val (.int p2), .val (.int p3), .val (.int p4), .val (.int p5), .val (.int p6), .val (.int (0 : Int32)), .val (.ref b4), .val (.ref b8), .val (.int x9), .val (.long (p4.toInt64 - p3.toInt64)), .second] [(.int (own_lo (0 : Int32) p3 p4))])) := fun t k => pre25 t (st26.trans k)
    have pre28 : own_Go p e below (s₁.setTop (entryFrame m #[(.int p1), (.int p2), (.int p3), (.int p4), (.int p5), (.int p6)] maxLocals)) (T26.setTop (mkF m 126 #[.val (.int p1), .val (.int p2), .val (.int p3), .val (.int p4), .val (.int p5), .val (.int p6), .val (.int (0 : Int32)), .val (.ref b4), .val (.ref b8), .val (.int x9), .val (.long (p4.toInt64 - p3.toInt64)), .second] [(.int (1 : Int32))])) := fun t k => pre27 t (by
        show Steps p.tables e below (T26.setTop (mkF m 116 #[.val (.int p1), .val (.int p2), .val (.int p3), .val (.int p4), .val (.int p5), .val (.int p6), .val (.int (0 : Int32)), .val (.ref b4), .val (.ref b8), .val (.int x9), .val (.long (p4.toInt64 - p3.toInt64)), .second] [(.int (own_lo (0 : Int32) p3 p4))])) _
        refine XS.iload X26.here hx rfl (hb hby at_116) rfl ?_
        show Steps p.tables e below (T26.setTop (mkF m 118 #[.val (.int p1), .val (.int p2), .val (.int p3), .val (.int p4), .val (.int p5), .val (.int p6), .val (.int (0 : Int32)), .val (.ref b4), .val (.ref b8), .val (.int x9), .val (.long (p4.toInt64 - p3.toInt64)), .second] [(.int x9), (.int (own_lo (0 : Int32) p3 p4))])) _
        refine XS.icmpNo X26.here hx rfl (hb hby at_118) rfl (XT.ii_ne_f hx9.symm) ?_
        show Steps p.tables e below (T26.setTop (mkF m 121 #[.val (.int p1), .val (.int p2), .val (.int p3), .val (.int p4), .val (.int p5), .val (.int p6), .val (.int (0 : Int32)), .val (.ref b4), .val (.ref b8), .val (.int x9), .val (.long (p4.toInt64 - p3.toInt64)), .second] [])) _
        refine XS.iconst X26.here hx rfl (hb hby at_121) ?_
        show Steps p.tables e below (T26.setTop (mkF m 122 #[.val (.int p1), .val (.int p2), .val (.int p3), .val (.int p4), .val (.int p5), .val (.int p6), .val (.int (0 : Int32)), .val (.ref b4), .val (.ref b8), .val (.int x9), .val (.long (p4.toInt64 - p3.toInt64)), .second] [(.int (1 : Int32))])) _
        refine XS.goto X26.here hx rfl (pc0 := 122) (pc' := 126) rfl (hb hby at_122) (by decide) (by decide) ?_
        exact k)
    obtain ⟨fs, hr, hrun, hended, hW, hsame⟩ := X26.leave (v := some (.int (1 : Int32))) (fun h => by rw [Bd.returns] at h; cases h)
    refine ⟨_, _, pre28 _ ?_, hrun, hended, _, _, rfl, ?_, ⟨_, rfl⟩, hW, hsame.mono (by decide) (by decide)⟩
    · show Steps p.tables e below (T26.setTop (mkF m 126 #[.val (.int p1), .val (.int p2), .val (.int p3), .val (.int p4), .val (.int p5), .val (.int p6), .val (.int (0 : Int32)), .val (.ref b4), .val (.ref b8), .val (.int x9), .val (.long (p4.toInt64 - p3.toInt64)), .second] [(.int (1 : Int32))])) _
      exact retN X26 hx (t := .boolean) Bd.returns (by simp) (hb hby at_126) hr
    · show Q0 Z p1 p2 p3 p4 p5 p6 h0 n0 _ T26.heap _
      exact ⟨rfl, N26⟩
  · skip
    have pre29 : own_Go p e below (s₁.setTop (entryFrame m #[(.int p1), (.int p2), (.int p3), (.int p4), (.int p5), (.int p6)] maxLocals)) (s₁.setTop (mkF m 8 #[.val (.int p1), .val (.int p2), .val (.int p3), .val (.int p4), .val (.int p5), .val (.int p6), .val (.int (1 : Int32)), .unset, .unset, .unset, .unset, .unset] [(.int (1 : Int32))])) := fun t k => pre2 t (by
        show Steps p.tables e below (s₁.setTop (mkF m 4 #[.val (.int p1), .val (.int p2), .val (.int p3), .val (.int p4), .val (.int p5), .val (.int p6), .unset, .unset, .unset, .unset, .unset, .unset] [(.int (1 : Int32))])) _
        refine XS.istore X0.here hx rfl (hb hby at_4) rfl (l' := #[.val (.int p1), .val (.int p2), .val (.int p3), .val (.int p4), .val (.int p5), .val (.int p6), .val (.int (1 : Int32)), .unset, .unset, .unset, .unset, .unset]) rfl ?_
        show Steps p.tables e below (s₁.setTop (mkF m 6 #[.val (.int p1), .val (.int p2), .val (.int p3), .val (.int p4), .val (.int p5), .val (.int p6), .val (.int (1 : Int32)), .unset, .unset, .unset, .unset, .unset] [])) _
        refine XS.iload X0.here hx rfl (hb hby at_6) rfl ?_
        exact k)
    obtain ⟨T30, h30, k30, X30, e30, E30, A30, st30⟩ := newP X0 hx hZ (hw _ (List.mem_of_getElem? (i := 0) rfl)) e0 (g := (mkF m 8 #[.val (.int p1), .val (.int p2), .val (.int p3), .val (.int p4), .val (.int p5), .val (.int p6), .val (.int (1 : Int32)), .unset, .unset, .unset, .unset, .unset] [(.int (1 : Int32))])) rfl (hb hby at_8) rfl (by decide) (cap := 3) (by decide) (by decide) (by decide) (by decide)
    obtain ⟨b30, g30⟩ : ∃ z, z = h0.size := ⟨_, rfl⟩
    rw [← g30] at A30 st30
    have V30 := own_A.new A30 (by decide) rfl rfl
    have pre31 : own_Go p e below (s₁.setTop (entryFrame m #[(.int p1), (.int p2), (.int p3), (.int p4), (.int p5), (.int p6)] maxLocals)) (T30.setTop (mkF m 10 #[.val (.int p1), .val (.int p2), .val (.int p3), .val (.int p4), .val (.int p5), .val (.int p6), .val (.int (1 : Int32)), .unset, .unset, .unset, .unset, .unset] [(.ref b30)])) := fun t k => pre29 t (st30 t k)
    have K_32 := (Keep.refl h0 []).ext E30
    have sz_b30 : h0.size ≤ b30 := Nat.le_trans (Keep.refl h0 []).1 (Nat.le_of_eq g30.symm)
    have g_b30 : n0 ≤ b30 := Nat.le_trans Z0 sz_b30
    have pre33 : own_Go p e below (s₁.setTop (entryFrame m #[(.int p1), (.int p2), (.int p3), (.int p4), (.int p5), (.int p6)] maxLocals)) (T30.setTop (mkF m 23 #[.val (.int p1), .val (.int p2), .val (.int p3), .val (.int p4), .val (.int p5), .val (.int p6), .val (.int (1 : Int32)), .val (.ref b30), .unset, .unset, .unset, .unset] [(.int (p6.toInt8.toInt32)), (.int (0 : Int32)), (.ref b30)])) := fun t k => pre31 t (by
        show Steps p.tables e below (T30.setTop (mkF m 10 #[.val (.int p1), .val (.int p2), .val (.int p3), .val (.int p4), .val (.int p5), .val (.int p6), .val (.int (1 : Int32)), .unset, .unset, .unset, .unset, .unset] [(.ref b30)])) _
        refine XS.astore X30.here hx rfl (hb hby at_10) rfl rfl (l' := #[.val (.int p1), .val (.int p2), .val (.int p3), .val (.int p4), .val (.int p5), .val (.int p6), .val (.int (1 : Int32)), .val (.ref b30), .unset, .unset, .unset, .unset]) rfl ?_
        show Steps p.tables e below (T30.setTop (mkF m 12 #[.val (.int p1), .val (.int p2), .val (.int p3), .val (.int p4), .val (.int p5), .val (.int p6), .val (.int (1 : Int32)), .val (.ref b30), .unset, .unset, .unset, .unset] [])) _
        refine XS.iload X30.here hx rfl (hb hby at_12) rfl ?_
        show Steps p.tables e below (T30.setTop (mkF m 14 #[.val (.int p1), .val (.int p2), .val (.int p3), .val (.int p4), .val (.int p5), .val (.int p6), .val (.int (1 : Int32)), .val (.ref b30), .unset, .unset, .unset, .unset] [(.int (1 : Int32))])) _
        refine XS.ifNo X30.here hx rfl (hb hby at_14) rfl (XT.i0_le_f (by decide)) ?_
        show Steps p.tables e below (T30.setTop (mkF m 17 #[.val (.int p1), .val (.int p2), .val (.int p3), .val (.int p4), .val (.int p5), .val (.int p6), .val (.int (1 : Int32)), .val (.ref b30), .unset, .unset, .unset, .unset] [])) _
        refine XS.aload X30.here hx rfl (hb hby at_17) rfl rfl ?_
        show Steps p.tables e below (T30.setTop (mkF m 19 #[.val (.int p1), .val (.int p2), .val (.int p3), .val (.int p4), .val (.int p5), .val (.int p6), .val (.int (1 : Int32)), .val (.ref b30), .unset, .unset, .unset, .unset] [(.ref b30)])) _
        refine XS.iconst X30.here hx rfl (hb hby at_19) ?_
        show Steps p.tables e below (T30.setTop (mkF m 20 #[.val (.int p1), .val (.int p2), .val (.int p3), .val (.int p4), .val (.int p5), .val (.int p6), .val (.int (1 : Int32)), .val (.ref b30), .unset, .unset, .unset, .unset] [(.int (0 : Int32)), (.ref b30)])) _
        refine XS.iload X30.here hx rfl (hb hby at_20) rfl ?_
        show Steps p.tables e below (T30.setTop (mkF m 22 #[.val (.int p1), .val (.int p2), .val (.int p3), .val (.int p4), .val (.int p5), .val (.int p6), .val (.int (1 : Int32)), .val (.ref b30), .unset, .unset, .unset, .unset] [(.int p6), (.int (0 : Int32)), (.ref b30)])) _
        refine XT.i2b X30.here hx rfl (hb hby at_22) rfl ?_
        exact k)
    obtain ⟨cl34, Ar34, hin34, -⟩ := own_A.at V30 (j := (0 : Int32)) (by decide) (by decide)
    obtain ⟨T34, h34, X34, e34, W34, st34⟩ := stB X30 hx hZ e30 Ar34 (j := (0 : Int32)) hin34 (g := (mkF m 23 #[.val (.int p1), .val (.int p2), .val (.int p3), .val (.int p4), .val (.int p5), .val (.int p6), .val (.int (1 : Int32)), .val (.ref b30), .unset, .unset, .unset, .unset] [(.int (p6.toInt8.toInt32)), (.int (0 : Int32)), (.ref b30)])) rfl rfl (hb hby at_23)
    have N34 := Fr.snoc X34 N0 g_b30
    have pre35 : own_Go p e below (s₁.setTop (entryFrame m #[(.int p1), (.int p2), (.int p3), (.int p4), (.int p5), (.int p6)] maxLocals)) (T34.setTop (mkF m 24 #[.val (.int p1), .val (.int p2), .val (.int p3), .val (.int p4), .val (.int p5), .val (.int p6), .val (.int (1 : Int32)), .val (.ref b30), .unset, .unset, .unset, .unset] [])) := fun t k => pre33 t (st34 t k)
    have V_36 := own_A.set V30 W34 (fits_nar_byte _)
    have K_37 := K_32.wr W34 (Or.inr sz_b30)
    have pre38 : own_Go p e below (s₁.setTop (entryFrame m #[(.int p1), (.int p2), (.int p3), (.int p4), (.int p5), (.int p6)] maxLocals)) (T34.setTop (mkF m 56 #[.val (.int p1), .val (.int p2), .val (.int p3), .val (.int p4), .val (.int p5), .val (.int p6), .val (.int (1 : Int32)), .val (.ref b30), .unset, .unset, .unset, .unset] [])) := fun t k => pre35 t (by
        show Steps p.tables e below (T34.setTop (mkF m 24 #[.val (.int p1), .val (.int p2), .val (.int p3), .val (.int p4), .val (.int p5), .val (.int p6), .val (.int (1 : Int32)), .val (.ref b30), .unset, .unset, .unset, .unset] [])) _
        refine XS.iload X34.here hx rfl (hb hby at_24) rfl ?_
        show Steps p.tables e below (T34.setTop (mkF m 26 #[.val (.int p1), .val (.int p2), .val (.int p3), .val (.int p4), .val (.int p5), .val (.int p6), .val (.int (1 : Int32)), .val (.ref b30), .unset, .unset, .unset, .unset] [(.int (1 : Int32))])) _
        refine XS.iconst X34.here hx rfl (hb hby at_26) ?_
        show Steps p.tables e below (T34.setTop (mkF m 27 #[.val (.int p1), .val (.int p2), .val (.int p3), .val (.int p4), .val (.int p5), .val (.int p6), .val (.int (1 : Int32)), .val (.ref b30), .unset, .unset, .unset, .unset] [(.int (1 : Int32)), (.int (1 : Int32))])) _
        refine XS.icmpYes X34.here hx rfl (pc0 := 27) (pc' := 40) rfl (hb hby at_27) rfl (XT.ii_le_t (by decide)) (by decide) (by decide) ?_
        show Steps p.tables e below (T34.setTop (mkF m 40 #[.val (.int p1), .val (.int p2), .val (.int p3), .val (.int p4), .val (.int p5), .val (.int p6), .val (.int (1 : Int32)), .val (.ref b30), .unset, .unset, .unset, .unset] [])) _
        refine XS.iload X34.here hx rfl (hb hby at_40) rfl ?_
        show Steps p.tables e below (T34.setTop (mkF m 42 #[.val (.int p1), .val (.int p2), .val (.int p3), .val (.int p4), .val (.int p5), .val (.int p6), .val (.int (1 : Int32)), .val (.ref b30), .unset, .unset, .unset, .unset] [(.int (1 : Int32))])) _
        refine XS.iconst X34.here hx rfl (hb hby at_42) ?_
        show Steps p.tables e below (T34.setTop (mkF m 43 #[.val (.int p1), .val (.int p2), .val (.int p3), .val (.int p4), .val (.int p5), .val (.int p6), .val (.int (1 : Int32)), .val (.ref b30), .unset, .unset, .unset, .unset] [(.int (2 : Int32)), (.int (1 : Int32))])) _
        refine XS.icmpYes X34.here hx rfl (pc0 := 43) (pc' := 56) rfl (hb hby at_43) rfl (XT.ii_le_t (by decide)) (by decide) (by decide) ?_
        exact k)
    obtain ⟨T39, h39, X39, e39, E39, A39, D39, -, st39⟩ := newO X34 hx hZ hown (hw _ (List.mem_of_getElem? (i := 1) rfl)) (hw _ (List.mem_of_getElem? (i := 2) rfl)) (hw _ (List.mem_of_getElem? (i := 3) rfl)) e34 (g := (mkF m 56 #[.val (.int p1), .val (.int p2), .val (.int p3), .val (.int p4), .val (.int p5), .val (.int p6), .val (.int (1 : Int32)), .val (.ref b30), .unset, .unset, .unset, .unset] [])) rfl (hb hby at_56) (by decide) (by decide)
    obtain ⟨b39, g39⟩ : ∃ z, z = h34.size := ⟨_, rfl⟩
    rw [← g39] at A39 D39 st39
    have pre40 : own_Go p e below (s₁.setTop (entryFrame m #[(.int p1), (.int p2), (.int p3), (.int p4), (.int p5), (.int p6)] maxLocals)) (T39.setTop (mkF m 59 #[.val (.int p1), .val (.int p2), .val (.int p3), .val (.int p4), .val (.int p5), .val (.int p6), .val (.int (1 : Int32)), .val (.ref b30), .unset, .unset, .unset, .unset] [(.ref b39)])) := fun t k => pre38 t (st39 t k)
    have V_41 := V_36.ext E39
    have K_42 := K_37.ext E39
    have ne_b30_b39 : b30 ≠ b39 := Nat.ne_of_lt (Nat.lt_of_lt_of_eq V_36.lt g39.symm)
    have sz_b39 : h0.size ≤ b39 := Nat.le_trans K_37.1 (Nat.le_of_eq g39.symm)
    have g_b39 : n0 ≤ b39 := Nat.le_trans Z0 sz_b39
    have F_origin_39 : Fld Z h39 b39 "com/example/mullion/mullion/client/Shell$Event" "origin" "C" (.int (0 : Int32)) := D39 (Or.inr (hw _ (List.mem_of_getElem? (i := 17) rfl))) (ty := .char) (by decide)
    have F_kind_39 : Fld Z h39 b39 "com/example/mullion/mullion/client/Shell$Event" "kind" "C" (.int (0 : Int32)) := D39 (Or.inr (hw _ (List.mem_of_getElem? (i := 19) rfl))) (ty := .char) (by decide)
    have F_q0_39 : Fld Z h39 b39 "com/example/mullion/mullion/client/Shell$Event" "q0" "I" (.int (0 : Int32)) := D39 (Or.inr (hw _ (List.mem_of_getElem? (i := 21) rfl))) (ty := .int) (by decide)
    have F_q1_39 : Fld Z h39 b39 "com/example/mullion/mullion/client/Shell$Event" "q1" "I" (.int (0 : Int32)) := D39 (Or.inr (hw _ (List.mem_of_getElem? (i := 23) rfl))) (ty := .int) (by decide)
    have F_text_39 : Fld Z h39 b39 "com/example/mullion/mullion/client/Shell$Event" "text" "[B" .null := D39 (Or.inr (hw _ (List.mem_of_getElem? (i := 25) rfl))) (ty := (.array .byte)) (by decide)
    have pre43 : own_Go p e below (s₁.setTop (entryFrame m #[(.int p1), (.int p2), (.int p3), (.int p4), (.int p5), (.int p6)] maxLocals)) (T39.setTop (mkF m 65 #[.val (.int p1), .val (.int p2), .val (.int p3), .val (.int p4), .val (.int p5), .val (.int p6), .val (.int (1 : Int32)), .val (.ref b30), .unset, .unset, .unset, .unset] [(.int ((p1 &&& (65535 : Int32)).toUInt32.toUInt16.toUInt32.toInt32)), (.ref b39), (.ref b39)])) := fun t k => pre40 t (by
        show Steps p.tables e below (T39.setTop (mkF m 59 #[.val (.int p1), .val (.int p2), .val (.int p3), .val (.int p4), .val (.int p5), .val (.int p6), .val (.int (1 : Int32)), .val (.ref b30), .unset, .unset, .unset, .unset] [(.ref b39)])) _
        refine XS.dup X39.here hx rfl (hb hby at_59) rfl rfl ?_
        show Steps p.tables e below (T39.setTop (mkF m 60 #[.val (.int p1), .val (.int p2), .val (.int p3), .val (.int p4), .val (.int p5), .val (.int p6), .val (.int (1 : Int32)), .val (.ref b30), .unset, .unset, .unset, .unset] [(.ref b39), (.ref b39)])) _
        refine XS.iloadN X39.here hx rfl (hb hby at_60) rfl ?_
        show Steps p.tables e below (T39.setTop (mkF m 61 #[.val (.int p1), .val (.int p2), .val (.int p3), .val (.int p4), .val (.int p5), .val (.int p6), .val (.int (1 : Int32)), .val (.ref b30), .unset, .unset, .unset, .unset] [(.int p1), (.ref b39), (.ref b39)])) _
        refine X39.ldcI hx hown (mvT hZ (hw _ (List.mem_of_getElem? (i := 4) rfl))) rfl (hb hby at_61) ?_
        show Steps p.tables e below (T39.setTop (mkF m 63 #[.val (.int p1), .val (.int p2), .val (.int p3), .val (.int p4), .val (.int p5), .val (.int p6), .val (.int (1 : Int32)), .val (.ref b30), .unset, .unset, .unset, .unset] [(.int (65535 : Int32)), (.int p1), (.ref b39), (.ref b39)])) _
        refine XS.iand X39.here hx rfl (hb hby at_63) rfl ?_
        show Steps p.tables e below (T39.setTop (mkF m 64 #[.val (.int p1), .val (.int p2), .val (.int p3), .val (.int p4), .val (.int p5), .val (.int p6), .val (.int (1 : Int32)), .val (.ref b30), .unset, .unset, .unset, .unset] [(.int (p1 &&& (65535 : Int32))), (.ref b39), (.ref b39)])) _
        refine XT.i2c X39.here hx rfl (hb hby at_64) rfl ?_
        exact k)
    obtain ⟨o1, e_o1, pre44⟩ : ∃ o1 : Int32, o1 = ((p1 &&& (65535 : Int32)).toUInt32.toUInt16.toUInt32.toInt32) ∧ own_Go p e below (s₁.setTop (entryFrame m #[(.int p1), (.int p2), (.int p3), (.int p4), (.int p5), (.int p6)] maxLocals)) (T39.setTop (mkF m 65 #[.val (.int p1), .val (.int p2), .val (.int p3), .val (.int p4), .val (.int p5), .val (.int p6), .val (.int (1 : Int32)), .val (.ref b30), .unset, .unset, .unset, .unset] [(.int o1), (.ref b39), (.ref b39)])) := ⟨_, rfl, pre43⟩
    have pre45 : own_Go p e below (s₁.setTop (entryFrame m #[(.int p1), (.int p2), (.int p3), (.int p4), (.int p5), (.int p6)] maxLocals)) (T39.setTop (mkF m 70 #[.val (.int p1), .val (.int p2), .val (.int p3), .val (.int p4), .val (.int p5), .val (.int p6), .val (.int (1 : Int32)), .val (.ref b30), .unset, .unset, .unset, .unset] [(.int ((p2 &&& (65535 : Int32)).toUInt32.toUInt16.toUInt32.toInt32)), (.int o1), (.ref b39), (.ref b39)])) := fun t k => pre44 t (by
        show Steps p.tables e below (T39.setTop (mkF m 65 #[.val (.int p1), .val (.int p2), .val (.int p3), .val (.int p4), .val (.int p5), .val (.int p6), .val (.int (1 : Int32)), .val (.ref b30), .unset, .unset, .unset, .unset] [(.int o1), (.ref b39), (.ref b39)])) _
        refine XS.iloadN X39.here hx rfl (hb hby at_65) rfl ?_
        show Steps p.tables e below (T39.setTop (mkF m 66 #[.val (.int p1), .val (.int p2), .val (.int p3), .val (.int p4), .val (.int p5), .val (.int p6), .val (.int (1 : Int32)), .val (.ref b30), .unset, .unset, .unset, .unset] [(.int p2), (.int o1), (.ref b39), (.ref b39)])) _
        refine X39.ldcI hx hown (mvT hZ (hw _ (List.mem_of_getElem? (i := 4) rfl))) rfl (hb hby at_66) ?_
        show Steps p.tables e below (T39.setTop (mkF m 68 #[.val (.int p1), .val (.int p2), .val (.int p3), .val (.int p4), .val (.int p5), .val (.int p6), .val (.int (1 : Int32)), .val (.ref b30), .unset, .unset, .unset, .unset] [(.int (65535 : Int32)), (.int p2), (.int o1), (.ref b39), (.ref b39)])) _
        refine XS.iand X39.here hx rfl (hb hby at_68) rfl ?_
        show Steps p.tables e below (T39.setTop (mkF m 69 #[.val (.int p1), .val (.int p2), .val (.int p3), .val (.int p4), .val (.int p5), .val (.int p6), .val (.int (1 : Int32)), .val (.ref b30), .unset, .unset, .unset, .unset] [(.int (p2 &&& (65535 : Int32))), (.int o1), (.ref b39), (.ref b39)])) _
        refine XT.i2c X39.here hx rfl (hb hby at_69) rfl ?_
        exact k)
    obtain ⟨k1, e_k1, pre46⟩ : ∃ k1 : Int32, k1 = ((p2 &&& (65535 : Int32)).toUInt32.toUInt16.toUInt32.toInt32) ∧ own_Go p e below (s₁.setTop (entryFrame m #[(.int p1), (.int p2), (.int p3), (.int p4), (.int p5), (.int p6)] maxLocals)) (T39.setTop (mkF m 70 #[.val (.int p1), .val (.int p2), .val (.int p3), .val (.int p4), .val (.int p5), .val (.int p6), .val (.int (1 : Int32)), .val (.ref b30), .unset, .unset, .unset, .unset] [(.int k1), (.int o1), (.ref b39), (.ref b39)])) := ⟨_, rfl, pre45⟩
    have Z1 : n0 ≤ h39.size := Nat.le_trans Z0 K_42.1
    have pre47 : own_Go p e below (s₁.setTop (entryFrame m #[(.int p1), (.int p2), (.int p3), (.int p4), (.int p5), (.int p6)] maxLocals)) (T39.setTop (mkF m 74 #[.val (.int p1), .val (.int p2), .val (.int p3), .val (.int p4), .val (.int p5), .val (.int p6), .val (.int (1 : Int32)), .val (.ref b30), .unset, .unset, .unset, .unset] [(.ref b30), (.int p4), (.int p3), (.int k1), (.int o1), (.ref b39), (.ref b39)])) := fun t k => pre46 t (by
        show Steps p.tables e below (T39.setTop (mkF m 70 #[.val (.int p1), .val (.int p2), .val (.int p3), .val (.int p4), .val (.int p5), .val (.int p6), .val (.int (1 : Int32)), .val (.ref b30), .unset, .unset, .unset, .unset] [(.int k1), (.int o1), (.ref b39), (.ref b39)])) _
        refine XS.iloadN X39.here hx rfl (hb hby at_70) rfl ?_
        show Steps p.tables e below (T39.setTop (mkF m 71 #[.val (.int p1), .val (.int p2), .val (.int p3), .val (.int p4), .val (.int p5), .val (.int p6), .val (.int (1 : Int32)), .val (.ref b30), .unset, .unset, .unset, .unset] [(.int p3), (.int k1), (.int o1), (.ref b39), (.ref b39)])) _
        refine XS.iloadN X39.here hx rfl (hb hby at_71) rfl ?_
        show Steps p.tables e below (T39.setTop (mkF m 72 #[.val (.int p1), .val (.int p2), .val (.int p3), .val (.int p4), .val (.int p5), .val (.int p6), .val (.int (1 : Int32)), .val (.ref b30), .unset, .unset, .unset, .unset] [(.int p4), (.int p3), (.int k1), (.int o1), (.ref b39), (.ref b39)])) _
        refine XS.aload X39.here hx rfl (hb hby at_72) rfl rfl ?_
        exact k)
    obtain ⟨_, _, ⟨T48, L48, k48, n48⟩, -, X48, ⟨Lc48, hQ48, l48, y48, z48⟩, st48⟩ := X39.specialBack hx (y := (⟨"com/example/mullion/mullion/client/Shell$Event", "<init>", "(CCII[B)V"⟩ : MethodName)) rfl hown (mvT hZ (hw _ (List.mem_of_getElem? (i := 5) rfl))) (mvT hZ (hw _ (List.mem_of_getElem? (i := 6) rfl))) (mvT hZ (hw _ (List.mem_of_getElem? (i := 7) rfl))) (by decide) (backOf (W := 1) (rm2 l Z a0 hw [] b39 o1 k1 p3 p4 b30 h39 n0 Z1 A39 F_origin_39 F_kind_39 F_q0_39 F_q1_39 F_text_39 g_b39) hZ (hw _ (List.mem_of_getElem? (i := 7) rfl)) (hw _ (List.mem_of_getElem? (i := 3) rfl)) (by decide) (by decide)) (g := (mkF m 74 #[.val (.int p1), .val (.int p2), .val (.int p3), .val (.int p4), .val (.int p5), .val (.int p6), .val (.int (1 : Int32)), .val (.ref b30), .unset, .unset, .unset, .unset] [(.ref b30), (.int p4), (.int p3), (.int k1), (.int o1), (.ref b39), (.ref b39)])) rfl (by rw [hml]; rfl) (Steps.refl _) (a := b39) (argsL := [(.int o1), (.int k1), (.int p3), (.int p4), (.ref b30)]) (rest := [(.ref b39)]) (lenOf pd_0_0 rfl) rfl (by show 2 * 0 + _ ≤ _; exact Nat.le_of_eq rfl) (hb hby at_74) (fun _ _ => ⟨rfl, e39, (by decide : 2 + 0 ≤ _), (by decide : 8 + 0 ≤ _)⟩)
    dsimp only [Pt.U, Pt.locs, Pt.cells, Pt.slots] at X48 l48 y48 z48 st48 hQ48
    subst l48 y48 z48
    obtain ⟨rfl, N48q, K48, Fq048, Fq148, Ft48⟩ := hQ48
    have N48 := Fr.app N34 N48q
    have pre49 : own_Go p e below (s₁.setTop (entryFrame m #[(.int p1), (.int p2), (.int p3), (.int p4), (.int p5), (.int p6)] maxLocals)) (T48.setTop (mkF m 77 #[.val (.int p1), .val (.int p2), .val (.int p3), .val (.int p4), .val (.int p5), .val (.int p6), .val (.int (1 : Int32)), .val (.ref b30), .unset, .unset, .unset, .unset] [(.ref b39)])) := fun t k => pre47 t (st48.trans k)
    have Ex_50 := A39.keep K48
    have V_51 := V_41.keep K48 (ninS ne_b30_b39 nin0)
    have K_52 := K_42.trans K48 (allS (Or.inr sz_b39) all0)
    have Z2 : n0 ≤ T48.heap.size := Nat.le_trans Z0 K_52.1
    have pre53 : own_Go p e below (s₁.setTop (entryFrame m #[(.int p1), (.int p2), (.int p3), (.int p4), (.int p5), (.int p6)] maxLocals)) (T48.setTop (mkF m 113 #[.val (.int p1), .val (.int p2), .val (.int p3), .val (.int p4), .val (.int p5), .val (.int p6), .val (.int (1 : Int32)), .val (.ref b30), .val (.ref b39), .val (.int (0 : Int32)), .unset, .unset] [(.ref b39)])) := fun t k => pre49 t (by
        show Steps p.tables e below (T48.setTop (mkF m 77 #[.val (.int p1), .val (.int p2), .val (.int p3), .val (.int p4), .val (.int p5), .val (.int p6), .val (.int (1 : Int32)), .val (.ref b30), .unset, .unset, .unset, .unset] [(.ref b39)])) _
        refine XS.astore X48.here hx rfl (hb hby at_77) rfl rfl (l' := #[.val (.int p1), .val (.int p2), .val (.int p3), .val (.int p4), .val (.int p5), .val (.int p6), .val (.int (1 : Int32)), .val (.ref b30), .val (.ref b39), .unset, .unset, .unset]) rfl ?_
        show Steps p.tables e below (T48.setTop (mkF m 79 #[.val (.int p1), .val (.int p2), .val (.int p3), .val (.int p4), .val (.int p5), .val (.int p6), .val (.int (1 : Int32)), .val (.ref b30), .val (.ref b39), .unset, .unset, .unset] [])) _
        refine XS.iload X48.here hx rfl (hb hby at_79) rfl ?_
        show Steps p.tables e below (T48.setTop (mkF m 81 #[.val (.int p1), .val (.int p2), .val (.int p3), .val (.int p4), .val (.int p5), .val (.int p6), .val (.int (1 : Int32)), .val (.ref b30), .val (.ref b39), .unset, .unset, .unset] [(.int (1 : Int32))])) _
        refine XS.ifNo X48.here hx rfl (hb hby at_81) rfl (XT.i0_eq_f (by decide)) ?_
        show Steps p.tables e below (T48.setTop (mkF m 84 #[.val (.int p1), .val (.int p2), .val (.int p3), .val (.int p4), .val (.int p5), .val (.int p6), .val (.int (1 : Int32)), .val (.ref b30), .val (.ref b39), .unset, .unset, .unset] [])) _
        refine XS.iconst X48.here hx rfl (hb hby at_84) ?_
        show Steps p.tables e below (T48.setTop (mkF m 85 #[.val (.int p1), .val (.int p2), .val (.int p3), .val (.int p4), .val (.int p5), .val (.int p6), .val (.int (1 : Int32)), .val (.ref b30), .val (.ref b39), .unset, .unset, .unset] [(.int (0 : Int32))])) _
        refine XS.istore X48.here hx rfl (hb hby at_85) rfl (l' := #[.val (.int p1), .val (.int p2), .val (.int p3), .val (.int p4), .val (.int p5), .val (.int p6), .val (.int (1 : Int32)), .val (.ref b30), .val (.ref b39), .val (.int (0 : Int32)), .unset, .unset]) rfl ?_
        show Steps p.tables e below (T48.setTop (mkF m 87 #[.val (.int p1), .val (.int p2), .val (.int p3), .val (.int p4), .val (.int p5), .val (.int p6), .val (.int (1 : Int32)), .val (.ref b30), .val (.ref b39), .val (.int (0 : Int32)), .unset, .unset] [])) _
        refine XS.goto X48.here hx rfl (pc0 := 87) (pc' := 111) rfl (hb hby at_87) (by decide) (by decide) ?_
        show Steps p.tables e below (T48.setTop (mkF m 111 #[.val (.int p1), .val (.int p2), .val (.int p3), .val (.int p4), .val (.int p5), .val (.int p6), .val (.int (1 : Int32)), .val (.ref b30), .val (.ref b39), .val (.int (0 : Int32)), .unset, .unset] [])) _
        refine XS.aload X48.here hx rfl (hb hby at_111) rfl rfl ?_
        exact k)
    obtain ⟨cq54, kq54, q54a, q54b, q54c⟩ := isOf hZ rfl Ex_50
    obtain ⟨_, _, ⟨T54, L54, k54, n54⟩, -, X54, ⟨Lc54, hQ54, l54, y54, z54⟩, st54⟩ := X48.virtualBack hx (y := (⟨"com/example/mullion/mullion/client/Shell$Event", "leftOut", "()Z"⟩ : MethodName)) (z := (⟨"com/example/mullion/mullion/client/Shell$Event", "leftOut", "()Z"⟩ : MethodName)) hown (mvT hZ (hw _ (List.mem_of_getElem? (i := 26) rfl))) (mvT hZ (hw _ (List.mem_of_getElem? (i := 27) rfl))) (notFace_of_selects (args := #[]) (mvT hZ (hw _ (List.mem_of_getElem? (i := 29) rfl)))) (mvT hZ (hw _ (List.mem_of_getElem? (i := 29) rfl))) (mvT hZ (hw _ (List.mem_of_getElem? (i := 28) rfl))) (by decide) (backOf (W := 0) (rm3 l Z a0 hw [] b39 p3 p4 b30 (1 : Int32) _ T48.heap n0 Z2 Fq048 Fq148 Ft48 V_51) hZ (hw _ (List.mem_of_getElem? (i := 30) rfl)) (hw _ (List.mem_of_getElem? (i := 3) rfl)) (by decide) (by decide)) q54a q54c (g := (mkF m 113 #[.val (.int p1), .val (.int p2), .val (.int p3), .val (.int p4), .val (.int p5), .val (.int p6), .val (.int (1 : Int32)), .val (.ref b30), .val (.ref b39), .val (.int (0 : Int32)), .unset, .unset] [(.ref b39)])) rfl (by rw [hml]; rfl) (Steps.refl _) (argsL := []) (rest := []) (lenOf pd_0_1 rfl) rfl (by show 2 * 0 + _ ≤ _; exact Nat.le_of_eq rfl) (hb hby at_113) (fun _ _ => ⟨rfl, rfl, (by decide : 2 + 0 ≤ _), (by decide : 8 + 0 ≤ _)⟩)
    dsimp only [Pt.U, Pt.locs, Pt.cells, Pt.slots] at X54 l54 y54 z54 st54 hQ54
    subst l54 y54 z54
    obtain ⟨rfl, N54q, hh54⟩ := hQ54
    have N54 := Fr.app N48 N54q
    have pre55 : own_Go p e below (s₁.setTop (entryFrame m #[(.int p1), (.int p2), (.int p3), (.int p4), (.int p5), (.int p6)] maxLocals)) (T54.setTop (mkF m 116 #[.val (.int p1), .val (.int p2), .val (.int p3), .val (.int p4), .val (.int p5), .val (.int p6), .val (.int (1 : Int32)), .val (.ref b30), .val (.ref b39), .val (.int (0 : Int32)), .unset, .unset] [(.int (own_lo (1 : Int32) p3 p4))])) := fun t k => pre53 t (st54.trans k)
    have pre56 : own_Go p e below (s₁.setTop (entryFrame m #[(.int p1), (.int p2), (.int p3), (.int p4), (.int p5), (.int p6)] maxLocals)) (T54.setTop (mkF m 126 #[.val (.int p1), .val (.int p2), .val (.int p3), .val (.int p4), .val (.int p5), .val (.int p6), .val (.int (1 : Int32)), .val (.ref b30), .val (.ref b39), .val (.int (0 : Int32)), .unset, .unset] [(.int (1 : Int32))])) := fun t k => pre55 t (by
        show Steps p.tables e below (T54.setTop (mkF m 116 #[.val (.int p1), .val (.int p2), .val (.int p3), .val (.int p4), .val (.int p5), .val (.int p6), .val (.int (1 : Int32)), .val (.ref b30), .val (.ref b39), .val (.int (0 : Int32)), .unset, .unset] [(.int (own_lo (1 : Int32) p3 p4))])) _
        refine XS.iload X54.here hx rfl (hb hby at_116) rfl ?_
        show Steps p.tables e below (T54.setTop (mkF m 118 #[.val (.int p1), .val (.int p2), .val (.int p3), .val (.int p4), .val (.int p5), .val (.int p6), .val (.int (1 : Int32)), .val (.ref b30), .val (.ref b39), .val (.int (0 : Int32)), .unset, .unset] [(.int (0 : Int32)), (.int (own_lo (1 : Int32) p3 p4))])) _
        refine XS.icmpNo X54.here hx rfl (hb hby at_118) rfl (XT.ii_ne_f (own_lo0 fun q => absurd q.1 (by decide))) ?_
        show Steps p.tables e below (T54.setTop (mkF m 121 #[.val (.int p1), .val (.int p2), .val (.int p3), .val (.int p4), .val (.int p5), .val (.int p6), .val (.int (1 : Int32)), .val (.ref b30), .val (.ref b39), .val (.int (0 : Int32)), .unset, .unset] [])) _
        refine XS.iconst X54.here hx rfl (hb hby at_121) ?_
        show Steps p.tables e below (T54.setTop (mkF m 122 #[.val (.int p1), .val (.int p2), .val (.int p3), .val (.int p4), .val (.int p5), .val (.int p6), .val (.int (1 : Int32)), .val (.ref b30), .val (.ref b39), .val (.int (0 : Int32)), .unset, .unset] [(.int (1 : Int32))])) _
        refine XS.goto X54.here hx rfl (pc0 := 122) (pc' := 126) rfl (hb hby at_122) (by decide) (by decide) ?_
        exact k)
    obtain ⟨fs, hr, hrun, hended, hW, hsame⟩ := X54.leave (v := some (.int (1 : Int32))) (fun h => by rw [Bd.returns] at h; cases h)
    refine ⟨_, _, pre56 _ ?_, hrun, hended, _, _, rfl, ?_, ⟨_, rfl⟩, hW, hsame.mono (by decide) (by decide)⟩
    · show Steps p.tables e below (T54.setTop (mkF m 126 #[.val (.int p1), .val (.int p2), .val (.int p3), .val (.int p4), .val (.int p5), .val (.int p6), .val (.int (1 : Int32)), .val (.ref b30), .val (.ref b39), .val (.int (0 : Int32)), .unset, .unset] [(.int (1 : Int32))])) _
      exact retN X54 hx (t := .boolean) Bd.returns (by simp) (hb hby at_126) hr
    · show Q0 Z p1 p2 p3 p4 p5 p6 h0 n0 _ T54.heap _
      exact ⟨rfl, N54⟩
  · skip
    have pre57 : own_Go p e below (s₁.setTop (entryFrame m #[(.int p1), (.int p2), (.int p3), (.int p4), (.int p5), (.int p6)] maxLocals)) (s₁.setTop (mkF m 8 #[.val (.int p1), .val (.int p2), .val (.int p3), .val (.int p4), .val (.int p5), .val (.int p6), .val (.int (2 : Int32)), .unset, .unset, .unset, .unset, .unset] [(.int (2 : Int32))])) := fun t k => pre2 t (by
        show Steps p.tables e below (s₁.setTop (mkF m 4 #[.val (.int p1), .val (.int p2), .val (.int p3), .val (.int p4), .val (.int p5), .val (.int p6), .unset, .unset, .unset, .unset, .unset, .unset] [(.int (2 : Int32))])) _
        refine XS.istore X0.here hx rfl (hb hby at_4) rfl (l' := #[.val (.int p1), .val (.int p2), .val (.int p3), .val (.int p4), .val (.int p5), .val (.int p6), .val (.int (2 : Int32)), .unset, .unset, .unset, .unset, .unset]) rfl ?_
        show Steps p.tables e below (s₁.setTop (mkF m 6 #[.val (.int p1), .val (.int p2), .val (.int p3), .val (.int p4), .val (.int p5), .val (.int p6), .val (.int (2 : Int32)), .unset, .unset, .unset, .unset, .unset] [])) _
        refine XS.iload X0.here hx rfl (hb hby at_6) rfl ?_
        exact k)
    obtain ⟨T58, h58, k58, X58, e58, E58, A58, st58⟩ := newP X0 hx hZ (hw _ (List.mem_of_getElem? (i := 0) rfl)) e0 (g := (mkF m 8 #[.val (.int p1), .val (.int p2), .val (.int p3), .val (.int p4), .val (.int p5), .val (.int p6), .val (.int (2 : Int32)), .unset, .unset, .unset, .unset, .unset] [(.int (2 : Int32))])) rfl (hb hby at_8) rfl (by decide) (cap := 3) (by decide) (by decide) (by decide) (by decide)
    obtain ⟨b58, g58⟩ : ∃ z, z = h0.size := ⟨_, rfl⟩
    rw [← g58] at A58 st58
    have V58 := own_A.new A58 (by decide) rfl rfl
    have pre59 : own_Go p e below (s₁.setTop (entryFrame m #[(.int p1), (.int p2), (.int p3), (.int p4), (.int p5), (.int p6)] maxLocals)) (T58.setTop (mkF m 10 #[.val (.int p1), .val (.int p2), .val (.int p3), .val (.int p4), .val (.int p5), .val (.int p6), .val (.int (2 : Int32)), .unset, .unset, .unset, .unset, .unset] [(.ref b58)])) := fun t k => pre57 t (st58 t k)
    have K_60 := (Keep.refl h0 []).ext E58
    have sz_b58 : h0.size ≤ b58 := Nat.le_trans (Keep.refl h0 []).1 (Nat.le_of_eq g58.symm)
    have g_b58 : n0 ≤ b58 := Nat.le_trans Z0 sz_b58
    have pre61 : own_Go p e below (s₁.setTop (entryFrame m #[(.int p1), (.int p2), (.int p3), (.int p4), (.int p5), (.int p6)] maxLocals)) (T58.setTop (mkF m 23 #[.val (.int p1), .val (.int p2), .val (.int p3), .val (.int p4), .val (.int p5), .val (.int p6), .val (.int (2 : Int32)), .val (.ref b58), .unset, .unset, .unset, .unset] [(.int (p6.toInt8.toInt32)), (.int (0 : Int32)), (.ref b58)])) := fun t k => pre59 t (by
        show Steps p.tables e below (T58.setTop (mkF m 10 #[.val (.int p1), .val (.int p2), .val (.int p3), .val (.int p4), .val (.int p5), .val (.int p6), .val (.int (2 : Int32)), .unset, .unset, .unset, .unset, .unset] [(.ref b58)])) _
        refine XS.astore X58.here hx rfl (hb hby at_10) rfl rfl (l' := #[.val (.int p1), .val (.int p2), .val (.int p3), .val (.int p4), .val (.int p5), .val (.int p6), .val (.int (2 : Int32)), .val (.ref b58), .unset, .unset, .unset, .unset]) rfl ?_
        show Steps p.tables e below (T58.setTop (mkF m 12 #[.val (.int p1), .val (.int p2), .val (.int p3), .val (.int p4), .val (.int p5), .val (.int p6), .val (.int (2 : Int32)), .val (.ref b58), .unset, .unset, .unset, .unset] [])) _
        refine XS.iload X58.here hx rfl (hb hby at_12) rfl ?_
        show Steps p.tables e below (T58.setTop (mkF m 14 #[.val (.int p1), .val (.int p2), .val (.int p3), .val (.int p4), .val (.int p5), .val (.int p6), .val (.int (2 : Int32)), .val (.ref b58), .unset, .unset, .unset, .unset] [(.int (2 : Int32))])) _
        refine XS.ifNo X58.here hx rfl (hb hby at_14) rfl (XT.i0_le_f (by decide)) ?_
        show Steps p.tables e below (T58.setTop (mkF m 17 #[.val (.int p1), .val (.int p2), .val (.int p3), .val (.int p4), .val (.int p5), .val (.int p6), .val (.int (2 : Int32)), .val (.ref b58), .unset, .unset, .unset, .unset] [])) _
        refine XS.aload X58.here hx rfl (hb hby at_17) rfl rfl ?_
        show Steps p.tables e below (T58.setTop (mkF m 19 #[.val (.int p1), .val (.int p2), .val (.int p3), .val (.int p4), .val (.int p5), .val (.int p6), .val (.int (2 : Int32)), .val (.ref b58), .unset, .unset, .unset, .unset] [(.ref b58)])) _
        refine XS.iconst X58.here hx rfl (hb hby at_19) ?_
        show Steps p.tables e below (T58.setTop (mkF m 20 #[.val (.int p1), .val (.int p2), .val (.int p3), .val (.int p4), .val (.int p5), .val (.int p6), .val (.int (2 : Int32)), .val (.ref b58), .unset, .unset, .unset, .unset] [(.int (0 : Int32)), (.ref b58)])) _
        refine XS.iload X58.here hx rfl (hb hby at_20) rfl ?_
        show Steps p.tables e below (T58.setTop (mkF m 22 #[.val (.int p1), .val (.int p2), .val (.int p3), .val (.int p4), .val (.int p5), .val (.int p6), .val (.int (2 : Int32)), .val (.ref b58), .unset, .unset, .unset, .unset] [(.int p6), (.int (0 : Int32)), (.ref b58)])) _
        refine XT.i2b X58.here hx rfl (hb hby at_22) rfl ?_
        exact k)
    obtain ⟨cl62, Ar62, hin62, -⟩ := own_A.at V58 (j := (0 : Int32)) (by decide) (by decide)
    obtain ⟨T62, h62, X62, e62, W62, st62⟩ := stB X58 hx hZ e58 Ar62 (j := (0 : Int32)) hin62 (g := (mkF m 23 #[.val (.int p1), .val (.int p2), .val (.int p3), .val (.int p4), .val (.int p5), .val (.int p6), .val (.int (2 : Int32)), .val (.ref b58), .unset, .unset, .unset, .unset] [(.int (p6.toInt8.toInt32)), (.int (0 : Int32)), (.ref b58)])) rfl rfl (hb hby at_23)
    have N62 := Fr.snoc X62 N0 g_b58
    have pre63 : own_Go p e below (s₁.setTop (entryFrame m #[(.int p1), (.int p2), (.int p3), (.int p4), (.int p5), (.int p6)] maxLocals)) (T62.setTop (mkF m 24 #[.val (.int p1), .val (.int p2), .val (.int p3), .val (.int p4), .val (.int p5), .val (.int p6), .val (.int (2 : Int32)), .val (.ref b58), .unset, .unset, .unset, .unset] [])) := fun t k => pre61 t (st62 t k)
    have V_64 := own_A.set V58 W62 (fits_nar_byte _)
    have K_65 := K_60.wr W62 (Or.inr sz_b58)
    have pre66 : own_Go p e below (s₁.setTop (entryFrame m #[(.int p1), (.int p2), (.int p3), (.int p4), (.int p5), (.int p6)] maxLocals)) (T62.setTop (mkF m 39 #[.val (.int p1), .val (.int p2), .val (.int p3), .val (.int p4), .val (.int p5), .val (.int p6), .val (.int (2 : Int32)), .val (.ref b58), .unset, .unset, .unset, .unset] [(.int (((p6.toUInt32 >>> ((8 : Int32) &&& 31).toUInt32).toInt32).toInt8.toInt32)), (.int (1 : Int32)), (.ref b58)])) := fun t k => pre63 t (by
        show Steps p.tables e below (T62.setTop (mkF m 24 #[.val (.int p1), .val (.int p2), .val (.int p3), .val (.int p4), .val (.int p5), .val (.int p6), .val (.int (2 : Int32)), .val (.ref b58), .unset, .unset, .unset, .unset] [])) _
        refine XS.iload X62.here hx rfl (hb hby at_24) rfl ?_
        show Steps p.tables e below (T62.setTop (mkF m 26 #[.val (.int p1), .val (.int p2), .val (.int p3), .val (.int p4), .val (.int p5), .val (.int p6), .val (.int (2 : Int32)), .val (.ref b58), .unset, .unset, .unset, .unset] [(.int (2 : Int32))])) _
        refine XS.iconst X62.here hx rfl (hb hby at_26) ?_
        show Steps p.tables e below (T62.setTop (mkF m 27 #[.val (.int p1), .val (.int p2), .val (.int p3), .val (.int p4), .val (.int p5), .val (.int p6), .val (.int (2 : Int32)), .val (.ref b58), .unset, .unset, .unset, .unset] [(.int (1 : Int32)), (.int (2 : Int32))])) _
        refine XS.icmpNo X62.here hx rfl (hb hby at_27) rfl (XT.ii_le_f (by decide)) ?_
        show Steps p.tables e below (T62.setTop (mkF m 30 #[.val (.int p1), .val (.int p2), .val (.int p3), .val (.int p4), .val (.int p5), .val (.int p6), .val (.int (2 : Int32)), .val (.ref b58), .unset, .unset, .unset, .unset] [])) _
        refine XS.aload X62.here hx rfl (hb hby at_30) rfl rfl ?_
        show Steps p.tables e below (T62.setTop (mkF m 32 #[.val (.int p1), .val (.int p2), .val (.int p3), .val (.int p4), .val (.int p5), .val (.int p6), .val (.int (2 : Int32)), .val (.ref b58), .unset, .unset, .unset, .unset] [(.ref b58)])) _
        refine XS.iconst X62.here hx rfl (hb hby at_32) ?_
        show Steps p.tables e below (T62.setTop (mkF m 33 #[.val (.int p1), .val (.int p2), .val (.int p3), .val (.int p4), .val (.int p5), .val (.int p6), .val (.int (2 : Int32)), .val (.ref b58), .unset, .unset, .unset, .unset] [(.int (1 : Int32)), (.ref b58)])) _
        refine XS.iload X62.here hx rfl (hb hby at_33) rfl ?_
        show Steps p.tables e below (T62.setTop (mkF m 35 #[.val (.int p1), .val (.int p2), .val (.int p3), .val (.int p4), .val (.int p5), .val (.int p6), .val (.int (2 : Int32)), .val (.ref b58), .unset, .unset, .unset, .unset] [(.int p6), (.int (1 : Int32)), (.ref b58)])) _
        refine XS.bipush X62.here hx rfl (hb hby at_35) ?_
        show Steps p.tables e below (T62.setTop (mkF m 37 #[.val (.int p1), .val (.int p2), .val (.int p3), .val (.int p4), .val (.int p5), .val (.int p6), .val (.int (2 : Int32)), .val (.ref b58), .unset, .unset, .unset, .unset] [(.int (8 : Int32)), (.int p6), (.int (1 : Int32)), (.ref b58)])) _
        refine XT.iushr X62.here hx rfl (hb hby at_37) rfl ?_
        show Steps p.tables e below (T62.setTop (mkF m 38 #[.val (.int p1), .val (.int p2), .val (.int p3), .val (.int p4), .val (.int p5), .val (.int p6), .val (.int (2 : Int32)), .val (.ref b58), .unset, .unset, .unset, .unset] [(.int ((p6.toUInt32 >>> ((8 : Int32) &&& 31).toUInt32).toInt32)), (.int (1 : Int32)), (.ref b58)])) _
        refine XT.i2b X62.here hx rfl (hb hby at_38) rfl ?_
        exact k)
    obtain ⟨cl67, Ar67, hin67, -⟩ := own_A.at V_64 (j := (1 : Int32)) (by decide) (by decide)
    obtain ⟨T67, h67, X67, e67, W67, st67⟩ := stB X62 hx hZ e62 Ar67 (j := (1 : Int32)) hin67 (g := (mkF m 39 #[.val (.int p1), .val (.int p2), .val (.int p3), .val (.int p4), .val (.int p5), .val (.int p6), .val (.int (2 : Int32)), .val (.ref b58), .unset, .unset, .unset, .unset] [(.int (((p6.toUInt32 >>> ((8 : Int32) &&& 31).toUInt32).toInt32).toInt8.toInt32)), (.int (1 : Int32)), (.ref b58)])) rfl rfl (hb hby at_39)
    have N67 := Fr.snoc X67 N62 g_b58
    have pre68 : own_Go p e below (s₁.setTop (entryFrame m #[(.int p1), (.int p2), (.int p3), (.int p4), (.int p5), (.int p6)] maxLocals)) (T67.setTop (mkF m 40 #[.val (.int p1), .val (.int p2), .val (.int p3), .val (.int p4), .val (.int p5), .val (.int p6), .val (.int (2 : Int32)), .val (.ref b58), .unset, .unset, .unset, .unset] [])) := fun t k => pre66 t (st67 t k)
    have V_69 := own_A.set V_64 W67 (fits_nar_byte _)
    have K_70 := K_65.wr W67 (Or.inr sz_b58)
    have pre71 : own_Go p e below (s₁.setTop (entryFrame m #[(.int p1), (.int p2), (.int p3), (.int p4), (.int p5), (.int p6)] maxLocals)) (T67.setTop (mkF m 56 #[.val (.int p1), .val (.int p2), .val (.int p3), .val (.int p4), .val (.int p5), .val (.int p6), .val (.int (2 : Int32)), .val (.ref b58), .unset, .unset, .unset, .unset] [])) := fun t k => pre68 t (by
        show Steps p.tables e below (T67.setTop (mkF m 40 #[.val (.int p1), .val (.int p2), .val (.int p3), .val (.int p4), .val (.int p5), .val (.int p6), .val (.int (2 : Int32)), .val (.ref b58), .unset, .unset, .unset, .unset] [])) _
        refine XS.iload X67.here hx rfl (hb hby at_40) rfl ?_
        show Steps p.tables e below (T67.setTop (mkF m 42 #[.val (.int p1), .val (.int p2), .val (.int p3), .val (.int p4), .val (.int p5), .val (.int p6), .val (.int (2 : Int32)), .val (.ref b58), .unset, .unset, .unset, .unset] [(.int (2 : Int32))])) _
        refine XS.iconst X67.here hx rfl (hb hby at_42) ?_
        show Steps p.tables e below (T67.setTop (mkF m 43 #[.val (.int p1), .val (.int p2), .val (.int p3), .val (.int p4), .val (.int p5), .val (.int p6), .val (.int (2 : Int32)), .val (.ref b58), .unset, .unset, .unset, .unset] [(.int (2 : Int32)), (.int (2 : Int32))])) _
        refine XS.icmpYes X67.here hx rfl (pc0 := 43) (pc' := 56) rfl (hb hby at_43) rfl (XT.ii_le_t (by decide)) (by decide) (by decide) ?_
        exact k)
    obtain ⟨T72, h72, X72, e72, E72, A72, D72, -, st72⟩ := newO X67 hx hZ hown (hw _ (List.mem_of_getElem? (i := 1) rfl)) (hw _ (List.mem_of_getElem? (i := 2) rfl)) (hw _ (List.mem_of_getElem? (i := 3) rfl)) e67 (g := (mkF m 56 #[.val (.int p1), .val (.int p2), .val (.int p3), .val (.int p4), .val (.int p5), .val (.int p6), .val (.int (2 : Int32)), .val (.ref b58), .unset, .unset, .unset, .unset] [])) rfl (hb hby at_56) (by decide) (by decide)
    obtain ⟨b72, g72⟩ : ∃ z, z = h67.size := ⟨_, rfl⟩
    rw [← g72] at A72 D72 st72
    have pre73 : own_Go p e below (s₁.setTop (entryFrame m #[(.int p1), (.int p2), (.int p3), (.int p4), (.int p5), (.int p6)] maxLocals)) (T72.setTop (mkF m 59 #[.val (.int p1), .val (.int p2), .val (.int p3), .val (.int p4), .val (.int p5), .val (.int p6), .val (.int (2 : Int32)), .val (.ref b58), .unset, .unset, .unset, .unset] [(.ref b72)])) := fun t k => pre71 t (st72 t k)
    have V_74 := V_69.ext E72
    have K_75 := K_70.ext E72
    have ne_b58_b72 : b58 ≠ b72 := Nat.ne_of_lt (Nat.lt_of_lt_of_eq V_69.lt g72.symm)
    have sz_b72 : h0.size ≤ b72 := Nat.le_trans K_70.1 (Nat.le_of_eq g72.symm)
    have g_b72 : n0 ≤ b72 := Nat.le_trans Z0 sz_b72
    have F_origin_72 : Fld Z h72 b72 "com/example/mullion/mullion/client/Shell$Event" "origin" "C" (.int (0 : Int32)) := D72 (Or.inr (hw _ (List.mem_of_getElem? (i := 17) rfl))) (ty := .char) (by decide)
    have F_kind_72 : Fld Z h72 b72 "com/example/mullion/mullion/client/Shell$Event" "kind" "C" (.int (0 : Int32)) := D72 (Or.inr (hw _ (List.mem_of_getElem? (i := 19) rfl))) (ty := .char) (by decide)
    have F_q0_72 : Fld Z h72 b72 "com/example/mullion/mullion/client/Shell$Event" "q0" "I" (.int (0 : Int32)) := D72 (Or.inr (hw _ (List.mem_of_getElem? (i := 21) rfl))) (ty := .int) (by decide)
    have F_q1_72 : Fld Z h72 b72 "com/example/mullion/mullion/client/Shell$Event" "q1" "I" (.int (0 : Int32)) := D72 (Or.inr (hw _ (List.mem_of_getElem? (i := 23) rfl))) (ty := .int) (by decide)
    have F_text_72 : Fld Z h72 b72 "com/example/mullion/mullion/client/Shell$Event" "text" "[B" .null := D72 (Or.inr (hw _ (List.mem_of_getElem? (i := 25) rfl))) (ty := (.array .byte)) (by decide)
    have pre76 : own_Go p e below (s₁.setTop (entryFrame m #[(.int p1), (.int p2), (.int p3), (.int p4), (.int p5), (.int p6)] maxLocals)) (T72.setTop (mkF m 65 #[.val (.int p1), .val (.int p2), .val (.int p3), .val (.int p4), .val (.int p5), .val (.int p6), .val (.int (2 : Int32)), .val (.ref b58), .unset, .unset, .unset, .unset] [(.int ((p1 &&& (65535 : Int32)).toUInt32.toUInt16.toUInt32.toInt32)), (.ref b72), (.ref b72)])) := fun t k => pre73 t (by
        show Steps p.tables e below (T72.setTop (mkF m 59 #[.val (.int p1), .val (.int p2), .val (.int p3), .val (.int p4), .val (.int p5), .val (.int p6), .val (.int (2 : Int32)), .val (.ref b58), .unset, .unset, .unset, .unset] [(.ref b72)])) _
        refine XS.dup X72.here hx rfl (hb hby at_59) rfl rfl ?_
        show Steps p.tables e below (T72.setTop (mkF m 60 #[.val (.int p1), .val (.int p2), .val (.int p3), .val (.int p4), .val (.int p5), .val (.int p6), .val (.int (2 : Int32)), .val (.ref b58), .unset, .unset, .unset, .unset] [(.ref b72), (.ref b72)])) _
        refine XS.iloadN X72.here hx rfl (hb hby at_60) rfl ?_
        show Steps p.tables e below (T72.setTop (mkF m 61 #[.val (.int p1), .val (.int p2), .val (.int p3), .val (.int p4), .val (.int p5), .val (.int p6), .val (.int (2 : Int32)), .val (.ref b58), .unset, .unset, .unset, .unset] [(.int p1), (.ref b72), (.ref b72)])) _
        refine X72.ldcI hx hown (mvT hZ (hw _ (List.mem_of_getElem? (i := 4) rfl))) rfl (hb hby at_61) ?_
        show Steps p.tables e below (T72.setTop (mkF m 63 #[.val (.int p1), .val (.int p2), .val (.int p3), .val (.int p4), .val (.int p5), .val (.int p6), .val (.int (2 : Int32)), .val (.ref b58), .unset, .unset, .unset, .unset] [(.int (65535 : Int32)), (.int p1), (.ref b72), (.ref b72)])) _
        refine XS.iand X72.here hx rfl (hb hby at_63) rfl ?_
        show Steps p.tables e below (T72.setTop (mkF m 64 #[.val (.int p1), .val (.int p2), .val (.int p3), .val (.int p4), .val (.int p5), .val (.int p6), .val (.int (2 : Int32)), .val (.ref b58), .unset, .unset, .unset, .unset] [(.int (p1 &&& (65535 : Int32))), (.ref b72), (.ref b72)])) _
        refine XT.i2c X72.here hx rfl (hb hby at_64) rfl ?_
        exact k)
    obtain ⟨o1, e_o1, pre77⟩ : ∃ o1 : Int32, o1 = ((p1 &&& (65535 : Int32)).toUInt32.toUInt16.toUInt32.toInt32) ∧ own_Go p e below (s₁.setTop (entryFrame m #[(.int p1), (.int p2), (.int p3), (.int p4), (.int p5), (.int p6)] maxLocals)) (T72.setTop (mkF m 65 #[.val (.int p1), .val (.int p2), .val (.int p3), .val (.int p4), .val (.int p5), .val (.int p6), .val (.int (2 : Int32)), .val (.ref b58), .unset, .unset, .unset, .unset] [(.int o1), (.ref b72), (.ref b72)])) := ⟨_, rfl, pre76⟩
    have pre78 : own_Go p e below (s₁.setTop (entryFrame m #[(.int p1), (.int p2), (.int p3), (.int p4), (.int p5), (.int p6)] maxLocals)) (T72.setTop (mkF m 70 #[.val (.int p1), .val (.int p2), .val (.int p3), .val (.int p4), .val (.int p5), .val (.int p6), .val (.int (2 : Int32)), .val (.ref b58), .unset, .unset, .unset, .unset] [(.int ((p2 &&& (65535 : Int32)).toUInt32.toUInt16.toUInt32.toInt32)), (.int o1), (.ref b72), (.ref b72)])) := fun t k => pre77 t (by
        show Steps p.tables e below (T72.setTop (mkF m 65 #[.val (.int p1), .val (.int p2), .val (.int p3), .val (.int p4), .val (.int p5), .val (.int p6), .val (.int (2 : Int32)), .val (.ref b58), .unset, .unset, .unset, .unset] [(.int o1), (.ref b72), (.ref b72)])) _
        refine XS.iloadN X72.here hx rfl (hb hby at_65) rfl ?_
        show Steps p.tables e below (T72.setTop (mkF m 66 #[.val (.int p1), .val (.int p2), .val (.int p3), .val (.int p4), .val (.int p5), .val (.int p6), .val (.int (2 : Int32)), .val (.ref b58), .unset, .unset, .unset, .unset] [(.int p2), (.int o1), (.ref b72), (.ref b72)])) _
        refine X72.ldcI hx hown (mvT hZ (hw _ (List.mem_of_getElem? (i := 4) rfl))) rfl (hb hby at_66) ?_
        show Steps p.tables e below (T72.setTop (mkF m 68 #[.val (.int p1), .val (.int p2), .val (.int p3), .val (.int p4), .val (.int p5), .val (.int p6), .val (.int (2 : Int32)), .val (.ref b58), .unset, .unset, .unset, .unset] [(.int (65535 : Int32)), (.int p2), (.int o1), (.ref b72), (.ref b72)])) _
        refine XS.iand X72.here hx rfl (hb hby at_68) rfl ?_
        show Steps p.tables e below (T72.setTop (mkF m 69 #[.val (.int p1), .val (.int p2), .val (.int p3), .val (.int p4), .val (.int p5), .val (.int p6), .val (.int (2 : Int32)), .val (.ref b58), .unset, .unset, .unset, .unset] [(.int (p2 &&& (65535 : Int32))), (.int o1), (.ref b72), (.ref b72)])) _
        refine XT.i2c X72.here hx rfl (hb hby at_69) rfl ?_
        exact k)
    obtain ⟨k1, e_k1, pre79⟩ : ∃ k1 : Int32, k1 = ((p2 &&& (65535 : Int32)).toUInt32.toUInt16.toUInt32.toInt32) ∧ own_Go p e below (s₁.setTop (entryFrame m #[(.int p1), (.int p2), (.int p3), (.int p4), (.int p5), (.int p6)] maxLocals)) (T72.setTop (mkF m 70 #[.val (.int p1), .val (.int p2), .val (.int p3), .val (.int p4), .val (.int p5), .val (.int p6), .val (.int (2 : Int32)), .val (.ref b58), .unset, .unset, .unset, .unset] [(.int k1), (.int o1), (.ref b72), (.ref b72)])) := ⟨_, rfl, pre78⟩
    have Z1 : n0 ≤ h72.size := Nat.le_trans Z0 K_75.1
    have pre80 : own_Go p e below (s₁.setTop (entryFrame m #[(.int p1), (.int p2), (.int p3), (.int p4), (.int p5), (.int p6)] maxLocals)) (T72.setTop (mkF m 74 #[.val (.int p1), .val (.int p2), .val (.int p3), .val (.int p4), .val (.int p5), .val (.int p6), .val (.int (2 : Int32)), .val (.ref b58), .unset, .unset, .unset, .unset] [(.ref b58), (.int p4), (.int p3), (.int k1), (.int o1), (.ref b72), (.ref b72)])) := fun t k => pre79 t (by
        show Steps p.tables e below (T72.setTop (mkF m 70 #[.val (.int p1), .val (.int p2), .val (.int p3), .val (.int p4), .val (.int p5), .val (.int p6), .val (.int (2 : Int32)), .val (.ref b58), .unset, .unset, .unset, .unset] [(.int k1), (.int o1), (.ref b72), (.ref b72)])) _
        refine XS.iloadN X72.here hx rfl (hb hby at_70) rfl ?_
        show Steps p.tables e below (T72.setTop (mkF m 71 #[.val (.int p1), .val (.int p2), .val (.int p3), .val (.int p4), .val (.int p5), .val (.int p6), .val (.int (2 : Int32)), .val (.ref b58), .unset, .unset, .unset, .unset] [(.int p3), (.int k1), (.int o1), (.ref b72), (.ref b72)])) _
        refine XS.iloadN X72.here hx rfl (hb hby at_71) rfl ?_
        show Steps p.tables e below (T72.setTop (mkF m 72 #[.val (.int p1), .val (.int p2), .val (.int p3), .val (.int p4), .val (.int p5), .val (.int p6), .val (.int (2 : Int32)), .val (.ref b58), .unset, .unset, .unset, .unset] [(.int p4), (.int p3), (.int k1), (.int o1), (.ref b72), (.ref b72)])) _
        refine XS.aload X72.here hx rfl (hb hby at_72) rfl rfl ?_
        exact k)
    obtain ⟨_, _, ⟨T81, L81, k81, n81⟩, -, X81, ⟨Lc81, hQ81, l81, y81, z81⟩, st81⟩ := X72.specialBack hx (y := (⟨"com/example/mullion/mullion/client/Shell$Event", "<init>", "(CCII[B)V"⟩ : MethodName)) rfl hown (mvT hZ (hw _ (List.mem_of_getElem? (i := 5) rfl))) (mvT hZ (hw _ (List.mem_of_getElem? (i := 6) rfl))) (mvT hZ (hw _ (List.mem_of_getElem? (i := 7) rfl))) (by decide) (backOf (W := 1) (rm2 l Z a0 hw [] b72 o1 k1 p3 p4 b58 h72 n0 Z1 A72 F_origin_72 F_kind_72 F_q0_72 F_q1_72 F_text_72 g_b72) hZ (hw _ (List.mem_of_getElem? (i := 7) rfl)) (hw _ (List.mem_of_getElem? (i := 3) rfl)) (by decide) (by decide)) (g := (mkF m 74 #[.val (.int p1), .val (.int p2), .val (.int p3), .val (.int p4), .val (.int p5), .val (.int p6), .val (.int (2 : Int32)), .val (.ref b58), .unset, .unset, .unset, .unset] [(.ref b58), (.int p4), (.int p3), (.int k1), (.int o1), (.ref b72), (.ref b72)])) rfl (by rw [hml]; rfl) (Steps.refl _) (a := b72) (argsL := [(.int o1), (.int k1), (.int p3), (.int p4), (.ref b58)]) (rest := [(.ref b72)]) (lenOf pd_0_0 rfl) rfl (by show 2 * 0 + _ ≤ _; exact Nat.le_of_eq rfl) (hb hby at_74) (fun _ _ => ⟨rfl, e72, (by decide : 2 + 0 ≤ _), (by decide : 8 + 0 ≤ _)⟩)
    dsimp only [Pt.U, Pt.locs, Pt.cells, Pt.slots] at X81 l81 y81 z81 st81 hQ81
    subst l81 y81 z81
    obtain ⟨rfl, N81q, K81, Fq081, Fq181, Ft81⟩ := hQ81
    have N81 := Fr.app N67 N81q
    have pre82 : own_Go p e below (s₁.setTop (entryFrame m #[(.int p1), (.int p2), (.int p3), (.int p4), (.int p5), (.int p6)] maxLocals)) (T81.setTop (mkF m 77 #[.val (.int p1), .val (.int p2), .val (.int p3), .val (.int p4), .val (.int p5), .val (.int p6), .val (.int (2 : Int32)), .val (.ref b58), .unset, .unset, .unset, .unset] [(.ref b72)])) := fun t k => pre80 t (st81.trans k)
    have Ex_83 := A72.keep K81
    have V_84 := V_74.keep K81 (ninS ne_b58_b72 nin0)
    have K_85 := K_75.trans K81 (allS (Or.inr sz_b72) all0)
    have Z2 : n0 ≤ T81.heap.size := Nat.le_trans Z0 K_85.1
    have pre86 : own_Go p e below (s₁.setTop (entryFrame m #[(.int p1), (.int p2), (.int p3), (.int p4), (.int p5), (.int p6)] maxLocals)) (T81.setTop (mkF m 113 #[.val (.int p1), .val (.int p2), .val (.int p3), .val (.int p4), .val (.int p5), .val (.int p6), .val (.int (2 : Int32)), .val (.ref b58), .val (.ref b72), .val (.int (0 : Int32)), .unset, .unset] [(.ref b72)])) := fun t k => pre82 t (by
        show Steps p.tables e below (T81.setTop (mkF m 77 #[.val (.int p1), .val (.int p2), .val (.int p3), .val (.int p4), .val (.int p5), .val (.int p6), .val (.int (2 : Int32)), .val (.ref b58), .unset, .unset, .unset, .unset] [(.ref b72)])) _
        refine XS.astore X81.here hx rfl (hb hby at_77) rfl rfl (l' := #[.val (.int p1), .val (.int p2), .val (.int p3), .val (.int p4), .val (.int p5), .val (.int p6), .val (.int (2 : Int32)), .val (.ref b58), .val (.ref b72), .unset, .unset, .unset]) rfl ?_
        show Steps p.tables e below (T81.setTop (mkF m 79 #[.val (.int p1), .val (.int p2), .val (.int p3), .val (.int p4), .val (.int p5), .val (.int p6), .val (.int (2 : Int32)), .val (.ref b58), .val (.ref b72), .unset, .unset, .unset] [])) _
        refine XS.iload X81.here hx rfl (hb hby at_79) rfl ?_
        show Steps p.tables e below (T81.setTop (mkF m 81 #[.val (.int p1), .val (.int p2), .val (.int p3), .val (.int p4), .val (.int p5), .val (.int p6), .val (.int (2 : Int32)), .val (.ref b58), .val (.ref b72), .unset, .unset, .unset] [(.int (2 : Int32))])) _
        refine XS.ifNo X81.here hx rfl (hb hby at_81) rfl (XT.i0_eq_f (by decide)) ?_
        show Steps p.tables e below (T81.setTop (mkF m 84 #[.val (.int p1), .val (.int p2), .val (.int p3), .val (.int p4), .val (.int p5), .val (.int p6), .val (.int (2 : Int32)), .val (.ref b58), .val (.ref b72), .unset, .unset, .unset] [])) _
        refine XS.iconst X81.here hx rfl (hb hby at_84) ?_
        show Steps p.tables e below (T81.setTop (mkF m 85 #[.val (.int p1), .val (.int p2), .val (.int p3), .val (.int p4), .val (.int p5), .val (.int p6), .val (.int (2 : Int32)), .val (.ref b58), .val (.ref b72), .unset, .unset, .unset] [(.int (0 : Int32))])) _
        refine XS.istore X81.here hx rfl (hb hby at_85) rfl (l' := #[.val (.int p1), .val (.int p2), .val (.int p3), .val (.int p4), .val (.int p5), .val (.int p6), .val (.int (2 : Int32)), .val (.ref b58), .val (.ref b72), .val (.int (0 : Int32)), .unset, .unset]) rfl ?_
        show Steps p.tables e below (T81.setTop (mkF m 87 #[.val (.int p1), .val (.int p2), .val (.int p3), .val (.int p4), .val (.int p5), .val (.int p6), .val (.int (2 : Int32)), .val (.ref b58), .val (.ref b72), .val (.int (0 : Int32)), .unset, .unset] [])) _
        refine XS.goto X81.here hx rfl (pc0 := 87) (pc' := 111) rfl (hb hby at_87) (by decide) (by decide) ?_
        show Steps p.tables e below (T81.setTop (mkF m 111 #[.val (.int p1), .val (.int p2), .val (.int p3), .val (.int p4), .val (.int p5), .val (.int p6), .val (.int (2 : Int32)), .val (.ref b58), .val (.ref b72), .val (.int (0 : Int32)), .unset, .unset] [])) _
        refine XS.aload X81.here hx rfl (hb hby at_111) rfl rfl ?_
        exact k)
    obtain ⟨cq87, kq87, q87a, q87b, q87c⟩ := isOf hZ rfl Ex_83
    obtain ⟨_, _, ⟨T87, L87, k87, n87⟩, -, X87, ⟨Lc87, hQ87, l87, y87, z87⟩, st87⟩ := X81.virtualBack hx (y := (⟨"com/example/mullion/mullion/client/Shell$Event", "leftOut", "()Z"⟩ : MethodName)) (z := (⟨"com/example/mullion/mullion/client/Shell$Event", "leftOut", "()Z"⟩ : MethodName)) hown (mvT hZ (hw _ (List.mem_of_getElem? (i := 26) rfl))) (mvT hZ (hw _ (List.mem_of_getElem? (i := 27) rfl))) (notFace_of_selects (args := #[]) (mvT hZ (hw _ (List.mem_of_getElem? (i := 29) rfl)))) (mvT hZ (hw _ (List.mem_of_getElem? (i := 29) rfl))) (mvT hZ (hw _ (List.mem_of_getElem? (i := 28) rfl))) (by decide) (backOf (W := 0) (rm3 l Z a0 hw [] b72 p3 p4 b58 (2 : Int32) _ T81.heap n0 Z2 Fq081 Fq181 Ft81 V_84) hZ (hw _ (List.mem_of_getElem? (i := 30) rfl)) (hw _ (List.mem_of_getElem? (i := 3) rfl)) (by decide) (by decide)) q87a q87c (g := (mkF m 113 #[.val (.int p1), .val (.int p2), .val (.int p3), .val (.int p4), .val (.int p5), .val (.int p6), .val (.int (2 : Int32)), .val (.ref b58), .val (.ref b72), .val (.int (0 : Int32)), .unset, .unset] [(.ref b72)])) rfl (by rw [hml]; rfl) (Steps.refl _) (argsL := []) (rest := []) (lenOf pd_0_1 rfl) rfl (by show 2 * 0 + _ ≤ _; exact Nat.le_of_eq rfl) (hb hby at_113) (fun _ _ => ⟨rfl, rfl, (by decide : 2 + 0 ≤ _), (by decide : 8 + 0 ≤ _)⟩)
    dsimp only [Pt.U, Pt.locs, Pt.cells, Pt.slots] at X87 l87 y87 z87 st87 hQ87
    subst l87 y87 z87
    obtain ⟨rfl, N87q, hh87⟩ := hQ87
    have N87 := Fr.app N81 N87q
    have pre88 : own_Go p e below (s₁.setTop (entryFrame m #[(.int p1), (.int p2), (.int p3), (.int p4), (.int p5), (.int p6)] maxLocals)) (T87.setTop (mkF m 116 #[.val (.int p1), .val (.int p2), .val (.int p3), .val (.int p4), .val (.int p5), .val (.int p6), .val (.int (2 : Int32)), .val (.ref b58), .val (.ref b72), .val (.int (0 : Int32)), .unset, .unset] [(.int (own_lo (2 : Int32) p3 p4))])) := fun t k => pre86 t (st87.trans k)
    have pre89 : own_Go p e below (s₁.setTop (entryFrame m #[(.int p1), (.int p2), (.int p3), (.int p4), (.int p5), (.int p6)] maxLocals)) (T87.setTop (mkF m 126 #[.val (.int p1), .val (.int p2), .val (.int p3), .val (.int p4), .val (.int p5), .val (.int p6), .val (.int (2 : Int32)), .val (.ref b58), .val (.ref b72), .val (.int (0 : Int32)), .unset, .unset] [(.int (1 : Int32))])) := fun t k => pre88 t (by
        show Steps p.tables e below (T87.setTop (mkF m 116 #[.val (.int p1), .val (.int p2), .val (.int p3), .val (.int p4), .val (.int p5), .val (.int p6), .val (.int (2 : Int32)), .val (.ref b58), .val (.ref b72), .val (.int (0 : Int32)), .unset, .unset] [(.int (own_lo (2 : Int32) p3 p4))])) _
        refine XS.iload X87.here hx rfl (hb hby at_116) rfl ?_
        show Steps p.tables e below (T87.setTop (mkF m 118 #[.val (.int p1), .val (.int p2), .val (.int p3), .val (.int p4), .val (.int p5), .val (.int p6), .val (.int (2 : Int32)), .val (.ref b58), .val (.ref b72), .val (.int (0 : Int32)), .unset, .unset] [(.int (0 : Int32)), (.int (own_lo (2 : Int32) p3 p4))])) _
        refine XS.icmpNo X87.here hx rfl (hb hby at_118) rfl (XT.ii_ne_f (own_lo0 fun q => absurd q.1 (by decide))) ?_
        show Steps p.tables e below (T87.setTop (mkF m 121 #[.val (.int p1), .val (.int p2), .val (.int p3), .val (.int p4), .val (.int p5), .val (.int p6), .val (.int (2 : Int32)), .val (.ref b58), .val (.ref b72), .val (.int (0 : Int32)), .unset, .unset] [])) _
        refine XS.iconst X87.here hx rfl (hb hby at_121) ?_
        show Steps p.tables e below (T87.setTop (mkF m 122 #[.val (.int p1), .val (.int p2), .val (.int p3), .val (.int p4), .val (.int p5), .val (.int p6), .val (.int (2 : Int32)), .val (.ref b58), .val (.ref b72), .val (.int (0 : Int32)), .unset, .unset] [(.int (1 : Int32))])) _
        refine XS.goto X87.here hx rfl (pc0 := 122) (pc' := 126) rfl (hb hby at_122) (by decide) (by decide) ?_
        exact k)
    obtain ⟨fs, hr, hrun, hended, hW, hsame⟩ := X87.leave (v := some (.int (1 : Int32))) (fun h => by rw [Bd.returns] at h; cases h)
    refine ⟨_, _, pre89 _ ?_, hrun, hended, _, _, rfl, ?_, ⟨_, rfl⟩, hW, hsame.mono (by decide) (by decide)⟩
    · show Steps p.tables e below (T87.setTop (mkF m 126 #[.val (.int p1), .val (.int p2), .val (.int p3), .val (.int p4), .val (.int p5), .val (.int p6), .val (.int (2 : Int32)), .val (.ref b58), .val (.ref b72), .val (.int (0 : Int32)), .unset, .unset] [(.int (1 : Int32))])) _
      exact retN X87 hx (t := .boolean) Bd.returns (by simp) (hb hby at_126) hr
    · show Q0 Z p1 p2 p3 p4 p5 p6 h0 n0 _ T87.heap _
      exact ⟨rfl, N87⟩
  · skip
    have pre90 : own_Go p e below (s₁.setTop (entryFrame m #[(.int p1), (.int p2), (.int p3), (.int p4), (.int p5), (.int p6)] maxLocals)) (s₁.setTop (mkF m 8 #[.val (.int p1), .val (.int p2), .val (.int p3), .val (.int p4), .val (.int p5), .val (.int p6), .val (.int (3 : Int32)), .unset, .unset, .unset, .unset, .unset] [(.int (3 : Int32))])) := fun t k => pre2 t (by
        show Steps p.tables e below (s₁.setTop (mkF m 4 #[.val (.int p1), .val (.int p2), .val (.int p3), .val (.int p4), .val (.int p5), .val (.int p6), .unset, .unset, .unset, .unset, .unset, .unset] [(.int (3 : Int32))])) _
        refine XS.istore X0.here hx rfl (hb hby at_4) rfl (l' := #[.val (.int p1), .val (.int p2), .val (.int p3), .val (.int p4), .val (.int p5), .val (.int p6), .val (.int (3 : Int32)), .unset, .unset, .unset, .unset, .unset]) rfl ?_
        show Steps p.tables e below (s₁.setTop (mkF m 6 #[.val (.int p1), .val (.int p2), .val (.int p3), .val (.int p4), .val (.int p5), .val (.int p6), .val (.int (3 : Int32)), .unset, .unset, .unset, .unset, .unset] [])) _
        refine XS.iload X0.here hx rfl (hb hby at_6) rfl ?_
        exact k)
    obtain ⟨T91, h91, k91, X91, e91, E91, A91, st91⟩ := newP X0 hx hZ (hw _ (List.mem_of_getElem? (i := 0) rfl)) e0 (g := (mkF m 8 #[.val (.int p1), .val (.int p2), .val (.int p3), .val (.int p4), .val (.int p5), .val (.int p6), .val (.int (3 : Int32)), .unset, .unset, .unset, .unset, .unset] [(.int (3 : Int32))])) rfl (hb hby at_8) rfl (by decide) (cap := 3) (by decide) (by decide) (by decide) (by decide)
    obtain ⟨b91, g91⟩ : ∃ z, z = h0.size := ⟨_, rfl⟩
    rw [← g91] at A91 st91
    have V91 := own_A.new A91 (by decide) rfl rfl
    have pre92 : own_Go p e below (s₁.setTop (entryFrame m #[(.int p1), (.int p2), (.int p3), (.int p4), (.int p5), (.int p6)] maxLocals)) (T91.setTop (mkF m 10 #[.val (.int p1), .val (.int p2), .val (.int p3), .val (.int p4), .val (.int p5), .val (.int p6), .val (.int (3 : Int32)), .unset, .unset, .unset, .unset, .unset] [(.ref b91)])) := fun t k => pre90 t (st91 t k)
    have K_93 := (Keep.refl h0 []).ext E91
    have sz_b91 : h0.size ≤ b91 := Nat.le_trans (Keep.refl h0 []).1 (Nat.le_of_eq g91.symm)
    have g_b91 : n0 ≤ b91 := Nat.le_trans Z0 sz_b91
    have pre94 : own_Go p e below (s₁.setTop (entryFrame m #[(.int p1), (.int p2), (.int p3), (.int p4), (.int p5), (.int p6)] maxLocals)) (T91.setTop (mkF m 23 #[.val (.int p1), .val (.int p2), .val (.int p3), .val (.int p4), .val (.int p5), .val (.int p6), .val (.int (3 : Int32)), .val (.ref b91), .unset, .unset, .unset, .unset] [(.int (p6.toInt8.toInt32)), (.int (0 : Int32)), (.ref b91)])) := fun t k => pre92 t (by
        show Steps p.tables e below (T91.setTop (mkF m 10 #[.val (.int p1), .val (.int p2), .val (.int p3), .val (.int p4), .val (.int p5), .val (.int p6), .val (.int (3 : Int32)), .unset, .unset, .unset, .unset, .unset] [(.ref b91)])) _
        refine XS.astore X91.here hx rfl (hb hby at_10) rfl rfl (l' := #[.val (.int p1), .val (.int p2), .val (.int p3), .val (.int p4), .val (.int p5), .val (.int p6), .val (.int (3 : Int32)), .val (.ref b91), .unset, .unset, .unset, .unset]) rfl ?_
        show Steps p.tables e below (T91.setTop (mkF m 12 #[.val (.int p1), .val (.int p2), .val (.int p3), .val (.int p4), .val (.int p5), .val (.int p6), .val (.int (3 : Int32)), .val (.ref b91), .unset, .unset, .unset, .unset] [])) _
        refine XS.iload X91.here hx rfl (hb hby at_12) rfl ?_
        show Steps p.tables e below (T91.setTop (mkF m 14 #[.val (.int p1), .val (.int p2), .val (.int p3), .val (.int p4), .val (.int p5), .val (.int p6), .val (.int (3 : Int32)), .val (.ref b91), .unset, .unset, .unset, .unset] [(.int (3 : Int32))])) _
        refine XS.ifNo X91.here hx rfl (hb hby at_14) rfl (XT.i0_le_f (by decide)) ?_
        show Steps p.tables e below (T91.setTop (mkF m 17 #[.val (.int p1), .val (.int p2), .val (.int p3), .val (.int p4), .val (.int p5), .val (.int p6), .val (.int (3 : Int32)), .val (.ref b91), .unset, .unset, .unset, .unset] [])) _
        refine XS.aload X91.here hx rfl (hb hby at_17) rfl rfl ?_
        show Steps p.tables e below (T91.setTop (mkF m 19 #[.val (.int p1), .val (.int p2), .val (.int p3), .val (.int p4), .val (.int p5), .val (.int p6), .val (.int (3 : Int32)), .val (.ref b91), .unset, .unset, .unset, .unset] [(.ref b91)])) _
        refine XS.iconst X91.here hx rfl (hb hby at_19) ?_
        show Steps p.tables e below (T91.setTop (mkF m 20 #[.val (.int p1), .val (.int p2), .val (.int p3), .val (.int p4), .val (.int p5), .val (.int p6), .val (.int (3 : Int32)), .val (.ref b91), .unset, .unset, .unset, .unset] [(.int (0 : Int32)), (.ref b91)])) _
        refine XS.iload X91.here hx rfl (hb hby at_20) rfl ?_
        show Steps p.tables e below (T91.setTop (mkF m 22 #[.val (.int p1), .val (.int p2), .val (.int p3), .val (.int p4), .val (.int p5), .val (.int p6), .val (.int (3 : Int32)), .val (.ref b91), .unset, .unset, .unset, .unset] [(.int p6), (.int (0 : Int32)), (.ref b91)])) _
        refine XT.i2b X91.here hx rfl (hb hby at_22) rfl ?_
        exact k)
    obtain ⟨cl95, Ar95, hin95, -⟩ := own_A.at V91 (j := (0 : Int32)) (by decide) (by decide)
    obtain ⟨T95, h95, X95, e95, W95, st95⟩ := stB X91 hx hZ e91 Ar95 (j := (0 : Int32)) hin95 (g := (mkF m 23 #[.val (.int p1), .val (.int p2), .val (.int p3), .val (.int p4), .val (.int p5), .val (.int p6), .val (.int (3 : Int32)), .val (.ref b91), .unset, .unset, .unset, .unset] [(.int (p6.toInt8.toInt32)), (.int (0 : Int32)), (.ref b91)])) rfl rfl (hb hby at_23)
    have N95 := Fr.snoc X95 N0 g_b91
    have pre96 : own_Go p e below (s₁.setTop (entryFrame m #[(.int p1), (.int p2), (.int p3), (.int p4), (.int p5), (.int p6)] maxLocals)) (T95.setTop (mkF m 24 #[.val (.int p1), .val (.int p2), .val (.int p3), .val (.int p4), .val (.int p5), .val (.int p6), .val (.int (3 : Int32)), .val (.ref b91), .unset, .unset, .unset, .unset] [])) := fun t k => pre94 t (st95 t k)
    have V_97 := own_A.set V91 W95 (fits_nar_byte _)
    have K_98 := K_93.wr W95 (Or.inr sz_b91)
    have pre99 : own_Go p e below (s₁.setTop (entryFrame m #[(.int p1), (.int p2), (.int p3), (.int p4), (.int p5), (.int p6)] maxLocals)) (T95.setTop (mkF m 39 #[.val (.int p1), .val (.int p2), .val (.int p3), .val (.int p4), .val (.int p5), .val (.int p6), .val (.int (3 : Int32)), .val (.ref b91), .unset, .unset, .unset, .unset] [(.int (((p6.toUInt32 >>> ((8 : Int32) &&& 31).toUInt32).toInt32).toInt8.toInt32)), (.int (1 : Int32)), (.ref b91)])) := fun t k => pre96 t (by
        show Steps p.tables e below (T95.setTop (mkF m 24 #[.val (.int p1), .val (.int p2), .val (.int p3), .val (.int p4), .val (.int p5), .val (.int p6), .val (.int (3 : Int32)), .val (.ref b91), .unset, .unset, .unset, .unset] [])) _
        refine XS.iload X95.here hx rfl (hb hby at_24) rfl ?_
        show Steps p.tables e below (T95.setTop (mkF m 26 #[.val (.int p1), .val (.int p2), .val (.int p3), .val (.int p4), .val (.int p5), .val (.int p6), .val (.int (3 : Int32)), .val (.ref b91), .unset, .unset, .unset, .unset] [(.int (3 : Int32))])) _
        refine XS.iconst X95.here hx rfl (hb hby at_26) ?_
        show Steps p.tables e below (T95.setTop (mkF m 27 #[.val (.int p1), .val (.int p2), .val (.int p3), .val (.int p4), .val (.int p5), .val (.int p6), .val (.int (3 : Int32)), .val (.ref b91), .unset, .unset, .unset, .unset] [(.int (1 : Int32)), (.int (3 : Int32))])) _
        refine XS.icmpNo X95.here hx rfl (hb hby at_27) rfl (XT.ii_le_f (by decide)) ?_
        show Steps p.tables e below (T95.setTop (mkF m 30 #[.val (.int p1), .val (.int p2), .val (.int p3), .val (.int p4), .val (.int p5), .val (.int p6), .val (.int (3 : Int32)), .val (.ref b91), .unset, .unset, .unset, .unset] [])) _
        refine XS.aload X95.here hx rfl (hb hby at_30) rfl rfl ?_
        show Steps p.tables e below (T95.setTop (mkF m 32 #[.val (.int p1), .val (.int p2), .val (.int p3), .val (.int p4), .val (.int p5), .val (.int p6), .val (.int (3 : Int32)), .val (.ref b91), .unset, .unset, .unset, .unset] [(.ref b91)])) _
        refine XS.iconst X95.here hx rfl (hb hby at_32) ?_
        show Steps p.tables e below (T95.setTop (mkF m 33 #[.val (.int p1), .val (.int p2), .val (.int p3), .val (.int p4), .val (.int p5), .val (.int p6), .val (.int (3 : Int32)), .val (.ref b91), .unset, .unset, .unset, .unset] [(.int (1 : Int32)), (.ref b91)])) _
        refine XS.iload X95.here hx rfl (hb hby at_33) rfl ?_
        show Steps p.tables e below (T95.setTop (mkF m 35 #[.val (.int p1), .val (.int p2), .val (.int p3), .val (.int p4), .val (.int p5), .val (.int p6), .val (.int (3 : Int32)), .val (.ref b91), .unset, .unset, .unset, .unset] [(.int p6), (.int (1 : Int32)), (.ref b91)])) _
        refine XS.bipush X95.here hx rfl (hb hby at_35) ?_
        show Steps p.tables e below (T95.setTop (mkF m 37 #[.val (.int p1), .val (.int p2), .val (.int p3), .val (.int p4), .val (.int p5), .val (.int p6), .val (.int (3 : Int32)), .val (.ref b91), .unset, .unset, .unset, .unset] [(.int (8 : Int32)), (.int p6), (.int (1 : Int32)), (.ref b91)])) _
        refine XT.iushr X95.here hx rfl (hb hby at_37) rfl ?_
        show Steps p.tables e below (T95.setTop (mkF m 38 #[.val (.int p1), .val (.int p2), .val (.int p3), .val (.int p4), .val (.int p5), .val (.int p6), .val (.int (3 : Int32)), .val (.ref b91), .unset, .unset, .unset, .unset] [(.int ((p6.toUInt32 >>> ((8 : Int32) &&& 31).toUInt32).toInt32)), (.int (1 : Int32)), (.ref b91)])) _
        refine XT.i2b X95.here hx rfl (hb hby at_38) rfl ?_
        exact k)
    obtain ⟨cl100, Ar100, hin100, -⟩ := own_A.at V_97 (j := (1 : Int32)) (by decide) (by decide)
    obtain ⟨T100, h100, X100, e100, W100, st100⟩ := stB X95 hx hZ e95 Ar100 (j := (1 : Int32)) hin100 (g := (mkF m 39 #[.val (.int p1), .val (.int p2), .val (.int p3), .val (.int p4), .val (.int p5), .val (.int p6), .val (.int (3 : Int32)), .val (.ref b91), .unset, .unset, .unset, .unset] [(.int (((p6.toUInt32 >>> ((8 : Int32) &&& 31).toUInt32).toInt32).toInt8.toInt32)), (.int (1 : Int32)), (.ref b91)])) rfl rfl (hb hby at_39)
    have N100 := Fr.snoc X100 N95 g_b91
    have pre101 : own_Go p e below (s₁.setTop (entryFrame m #[(.int p1), (.int p2), (.int p3), (.int p4), (.int p5), (.int p6)] maxLocals)) (T100.setTop (mkF m 40 #[.val (.int p1), .val (.int p2), .val (.int p3), .val (.int p4), .val (.int p5), .val (.int p6), .val (.int (3 : Int32)), .val (.ref b91), .unset, .unset, .unset, .unset] [])) := fun t k => pre99 t (st100 t k)
    have V_102 := own_A.set V_97 W100 (fits_nar_byte _)
    have K_103 := K_98.wr W100 (Or.inr sz_b91)
    have pre104 : own_Go p e below (s₁.setTop (entryFrame m #[(.int p1), (.int p2), (.int p3), (.int p4), (.int p5), (.int p6)] maxLocals)) (T100.setTop (mkF m 55 #[.val (.int p1), .val (.int p2), .val (.int p3), .val (.int p4), .val (.int p5), .val (.int p6), .val (.int (3 : Int32)), .val (.ref b91), .unset, .unset, .unset, .unset] [(.int (((p6.toUInt32 >>> ((16 : Int32) &&& 31).toUInt32).toInt32).toInt8.toInt32)), (.int (2 : Int32)), (.ref b91)])) := fun t k => pre101 t (by
        show Steps p.tables e below (T100.setTop (mkF m 40 #[.val (.int p1), .val (.int p2), .val (.int p3), .val (.int p4), .val (.int p5), .val (.int p6), .val (.int (3 : Int32)), .val (.ref b91), .unset, .unset, .unset, .unset] [])) _
        refine XS.iload X100.here hx rfl (hb hby at_40) rfl ?_
        show Steps p.tables e below (T100.setTop (mkF m 42 #[.val (.int p1), .val (.int p2), .val (.int p3), .val (.int p4), .val (.int p5), .val (.int p6), .val (.int (3 : Int32)), .val (.ref b91), .unset, .unset, .unset, .unset] [(.int (3 : Int32))])) _
        refine XS.iconst X100.here hx rfl (hb hby at_42) ?_
        show Steps p.tables e below (T100.setTop (mkF m 43 #[.val (.int p1), .val (.int p2), .val (.int p3), .val (.int p4), .val (.int p5), .val (.int p6), .val (.int (3 : Int32)), .val (.ref b91), .unset, .unset, .unset, .unset] [(.int (2 : Int32)), (.int (3 : Int32))])) _
        refine XS.icmpNo X100.here hx rfl (hb hby at_43) rfl (XT.ii_le_f (by decide)) ?_
        show Steps p.tables e below (T100.setTop (mkF m 46 #[.val (.int p1), .val (.int p2), .val (.int p3), .val (.int p4), .val (.int p5), .val (.int p6), .val (.int (3 : Int32)), .val (.ref b91), .unset, .unset, .unset, .unset] [])) _
        refine XS.aload X100.here hx rfl (hb hby at_46) rfl rfl ?_
        show Steps p.tables e below (T100.setTop (mkF m 48 #[.val (.int p1), .val (.int p2), .val (.int p3), .val (.int p4), .val (.int p5), .val (.int p6), .val (.int (3 : Int32)), .val (.ref b91), .unset, .unset, .unset, .unset] [(.ref b91)])) _
        refine XS.iconst X100.here hx rfl (hb hby at_48) ?_
        show Steps p.tables e below (T100.setTop (mkF m 49 #[.val (.int p1), .val (.int p2), .val (.int p3), .val (.int p4), .val (.int p5), .val (.int p6), .val (.int (3 : Int32)), .val (.ref b91), .unset, .unset, .unset, .unset] [(.int (2 : Int32)), (.ref b91)])) _
        refine XS.iload X100.here hx rfl (hb hby at_49) rfl ?_
        show Steps p.tables e below (T100.setTop (mkF m 51 #[.val (.int p1), .val (.int p2), .val (.int p3), .val (.int p4), .val (.int p5), .val (.int p6), .val (.int (3 : Int32)), .val (.ref b91), .unset, .unset, .unset, .unset] [(.int p6), (.int (2 : Int32)), (.ref b91)])) _
        refine XS.bipush X100.here hx rfl (hb hby at_51) ?_
        show Steps p.tables e below (T100.setTop (mkF m 53 #[.val (.int p1), .val (.int p2), .val (.int p3), .val (.int p4), .val (.int p5), .val (.int p6), .val (.int (3 : Int32)), .val (.ref b91), .unset, .unset, .unset, .unset] [(.int (16 : Int32)), (.int p6), (.int (2 : Int32)), (.ref b91)])) _
        refine XT.iushr X100.here hx rfl (hb hby at_53) rfl ?_
        show Steps p.tables e below (T100.setTop (mkF m 54 #[.val (.int p1), .val (.int p2), .val (.int p3), .val (.int p4), .val (.int p5), .val (.int p6), .val (.int (3 : Int32)), .val (.ref b91), .unset, .unset, .unset, .unset] [(.int ((p6.toUInt32 >>> ((16 : Int32) &&& 31).toUInt32).toInt32)), (.int (2 : Int32)), (.ref b91)])) _
        refine XT.i2b X100.here hx rfl (hb hby at_54) rfl ?_
        exact k)
    obtain ⟨cl105, Ar105, hin105, -⟩ := own_A.at V_102 (j := (2 : Int32)) (by decide) (by decide)
    obtain ⟨T105, h105, X105, e105, W105, st105⟩ := stB X100 hx hZ e100 Ar105 (j := (2 : Int32)) hin105 (g := (mkF m 55 #[.val (.int p1), .val (.int p2), .val (.int p3), .val (.int p4), .val (.int p5), .val (.int p6), .val (.int (3 : Int32)), .val (.ref b91), .unset, .unset, .unset, .unset] [(.int (((p6.toUInt32 >>> ((16 : Int32) &&& 31).toUInt32).toInt32).toInt8.toInt32)), (.int (2 : Int32)), (.ref b91)])) rfl rfl (hb hby at_55)
    have N105 := Fr.snoc X105 N100 g_b91
    have pre106 : own_Go p e below (s₁.setTop (entryFrame m #[(.int p1), (.int p2), (.int p3), (.int p4), (.int p5), (.int p6)] maxLocals)) (T105.setTop (mkF m 56 #[.val (.int p1), .val (.int p2), .val (.int p3), .val (.int p4), .val (.int p5), .val (.int p6), .val (.int (3 : Int32)), .val (.ref b91), .unset, .unset, .unset, .unset] [])) := fun t k => pre104 t (st105 t k)
    have V_107 := own_A.set V_102 W105 (fits_nar_byte _)
    have K_108 := K_103.wr W105 (Or.inr sz_b91)
    obtain ⟨T109, h109, X109, e109, E109, A109, D109, -, st109⟩ := newO X105 hx hZ hown (hw _ (List.mem_of_getElem? (i := 1) rfl)) (hw _ (List.mem_of_getElem? (i := 2) rfl)) (hw _ (List.mem_of_getElem? (i := 3) rfl)) e105 (g := (mkF m 56 #[.val (.int p1), .val (.int p2), .val (.int p3), .val (.int p4), .val (.int p5), .val (.int p6), .val (.int (3 : Int32)), .val (.ref b91), .unset, .unset, .unset, .unset] [])) rfl (hb hby at_56) (by decide) (by decide)
    obtain ⟨b109, g109⟩ : ∃ z, z = h105.size := ⟨_, rfl⟩
    rw [← g109] at A109 D109 st109
    have pre110 : own_Go p e below (s₁.setTop (entryFrame m #[(.int p1), (.int p2), (.int p3), (.int p4), (.int p5), (.int p6)] maxLocals)) (T109.setTop (mkF m 59 #[.val (.int p1), .val (.int p2), .val (.int p3), .val (.int p4), .val (.int p5), .val (.int p6), .val (.int (3 : Int32)), .val (.ref b91), .unset, .unset, .unset, .unset] [(.ref b109)])) := fun t k => pre106 t (st109 t k)
    have V_111 := V_107.ext E109
    have K_112 := K_108.ext E109
    have ne_b91_b109 : b91 ≠ b109 := Nat.ne_of_lt (Nat.lt_of_lt_of_eq V_107.lt g109.symm)
    have sz_b109 : h0.size ≤ b109 := Nat.le_trans K_108.1 (Nat.le_of_eq g109.symm)
    have g_b109 : n0 ≤ b109 := Nat.le_trans Z0 sz_b109
    have F_origin_109 : Fld Z h109 b109 "com/example/mullion/mullion/client/Shell$Event" "origin" "C" (.int (0 : Int32)) := D109 (Or.inr (hw _ (List.mem_of_getElem? (i := 17) rfl))) (ty := .char) (by decide)
    have F_kind_109 : Fld Z h109 b109 "com/example/mullion/mullion/client/Shell$Event" "kind" "C" (.int (0 : Int32)) := D109 (Or.inr (hw _ (List.mem_of_getElem? (i := 19) rfl))) (ty := .char) (by decide)
    have F_q0_109 : Fld Z h109 b109 "com/example/mullion/mullion/client/Shell$Event" "q0" "I" (.int (0 : Int32)) := D109 (Or.inr (hw _ (List.mem_of_getElem? (i := 21) rfl))) (ty := .int) (by decide)
    have F_q1_109 : Fld Z h109 b109 "com/example/mullion/mullion/client/Shell$Event" "q1" "I" (.int (0 : Int32)) := D109 (Or.inr (hw _ (List.mem_of_getElem? (i := 23) rfl))) (ty := .int) (by decide)
    have F_text_109 : Fld Z h109 b109 "com/example/mullion/mullion/client/Shell$Event" "text" "[B" .null := D109 (Or.inr (hw _ (List.mem_of_getElem? (i := 25) rfl))) (ty := (.array .byte)) (by decide)
    have pre113 : own_Go p e below (s₁.setTop (entryFrame m #[(.int p1), (.int p2), (.int p3), (.int p4), (.int p5), (.int p6)] maxLocals)) (T109.setTop (mkF m 65 #[.val (.int p1), .val (.int p2), .val (.int p3), .val (.int p4), .val (.int p5), .val (.int p6), .val (.int (3 : Int32)), .val (.ref b91), .unset, .unset, .unset, .unset] [(.int ((p1 &&& (65535 : Int32)).toUInt32.toUInt16.toUInt32.toInt32)), (.ref b109), (.ref b109)])) := fun t k => pre110 t (by
        show Steps p.tables e below (T109.setTop (mkF m 59 #[.val (.int p1), .val (.int p2), .val (.int p3), .val (.int p4), .val (.int p5), .val (.int p6), .val (.int (3 : Int32)), .val (.ref b91), .unset, .unset, .unset, .unset] [(.ref b109)])) _
        refine XS.dup X109.here hx rfl (hb hby at_59) rfl rfl ?_
        show Steps p.tables e below (T109.setTop (mkF m 60 #[.val (.int p1), .val (.int p2), .val (.int p3), .val (.int p4), .val (.int p5), .val (.int p6), .val (.int (3 : Int32)), .val (.ref b91), .unset, .unset, .unset, .unset] [(.ref b109), (.ref b109)])) _
        refine XS.iloadN X109.here hx rfl (hb hby at_60) rfl ?_
        show Steps p.tables e below (T109.setTop (mkF m 61 #[.val (.int p1), .val (.int p2), .val (.int p3), .val (.int p4), .val (.int p5), .val (.int p6), .val (.int (3 : Int32)), .val (.ref b91), .unset, .unset, .unset, .unset] [(.int p1), (.ref b109), (.ref b109)])) _
        refine X109.ldcI hx hown (mvT hZ (hw _ (List.mem_of_getElem? (i := 4) rfl))) rfl (hb hby at_61) ?_
        show Steps p.tables e below (T109.setTop (mkF m 63 #[.val (.int p1), .val (.int p2), .val (.int p3), .val (.int p4), .val (.int p5), .val (.int p6), .val (.int (3 : Int32)), .val (.ref b91), .unset, .unset, .unset, .unset] [(.int (65535 : Int32)), (.int p1), (.ref b109), (.ref b109)])) _
        refine XS.iand X109.here hx rfl (hb hby at_63) rfl ?_
        show Steps p.tables e below (T109.setTop (mkF m 64 #[.val (.int p1), .val (.int p2), .val (.int p3), .val (.int p4), .val (.int p5), .val (.int p6), .val (.int (3 : Int32)), .val (.ref b91), .unset, .unset, .unset, .unset] [(.int (p1 &&& (65535 : Int32))), (.ref b109), (.ref b109)])) _
        refine XT.i2c X109.here hx rfl (hb hby at_64) rfl ?_
        exact k)
    obtain ⟨o1, e_o1, pre114⟩ : ∃ o1 : Int32, o1 = ((p1 &&& (65535 : Int32)).toUInt32.toUInt16.toUInt32.toInt32) ∧ own_Go p e below (s₁.setTop (entryFrame m #[(.int p1), (.int p2), (.int p3), (.int p4), (.int p5), (.int p6)] maxLocals)) (T109.setTop (mkF m 65 #[.val (.int p1), .val (.int p2), .val (.int p3), .val (.int p4), .val (.int p5), .val (.int p6), .val (.int (3 : Int32)), .val (.ref b91), .unset, .unset, .unset, .unset] [(.int o1), (.ref b109), (.ref b109)])) := ⟨_, rfl, pre113⟩
    have pre115 : own_Go p e below (s₁.setTop (entryFrame m #[(.int p1), (.int p2), (.int p3), (.int p4), (.int p5), (.int p6)] maxLocals)) (T109.setTop (mkF m 70 #[.val (.int p1), .val (.int p2), .val (.int p3), .val (.int p4), .val (.int p5), .val (.int p6), .val (.int (3 : Int32)), .val (.ref b91), .unset, .unset, .unset, .unset] [(.int ((p2 &&& (65535 : Int32)).toUInt32.toUInt16.toUInt32.toInt32)), (.int o1), (.ref b109), (.ref b109)])) := fun t k => pre114 t (by
        show Steps p.tables e below (T109.setTop (mkF m 65 #[.val (.int p1), .val (.int p2), .val (.int p3), .val (.int p4), .val (.int p5), .val (.int p6), .val (.int (3 : Int32)), .val (.ref b91), .unset, .unset, .unset, .unset] [(.int o1), (.ref b109), (.ref b109)])) _
        refine XS.iloadN X109.here hx rfl (hb hby at_65) rfl ?_
        show Steps p.tables e below (T109.setTop (mkF m 66 #[.val (.int p1), .val (.int p2), .val (.int p3), .val (.int p4), .val (.int p5), .val (.int p6), .val (.int (3 : Int32)), .val (.ref b91), .unset, .unset, .unset, .unset] [(.int p2), (.int o1), (.ref b109), (.ref b109)])) _
        refine X109.ldcI hx hown (mvT hZ (hw _ (List.mem_of_getElem? (i := 4) rfl))) rfl (hb hby at_66) ?_
        show Steps p.tables e below (T109.setTop (mkF m 68 #[.val (.int p1), .val (.int p2), .val (.int p3), .val (.int p4), .val (.int p5), .val (.int p6), .val (.int (3 : Int32)), .val (.ref b91), .unset, .unset, .unset, .unset] [(.int (65535 : Int32)), (.int p2), (.int o1), (.ref b109), (.ref b109)])) _
        refine XS.iand X109.here hx rfl (hb hby at_68) rfl ?_
        show Steps p.tables e below (T109.setTop (mkF m 69 #[.val (.int p1), .val (.int p2), .val (.int p3), .val (.int p4), .val (.int p5), .val (.int p6), .val (.int (3 : Int32)), .val (.ref b91), .unset, .unset, .unset, .unset] [(.int (p2 &&& (65535 : Int32))), (.int o1), (.ref b109), (.ref b109)])) _
        refine XT.i2c X109.here hx rfl (hb hby at_69) rfl ?_
        exact k)
    obtain ⟨k1, e_k1, pre116⟩ : ∃ k1 : Int32, k1 = ((p2 &&& (65535 : Int32)).toUInt32.toUInt16.toUInt32.toInt32) ∧ own_Go p e below (s₁.setTop (entryFrame m #[(.int p1), (.int p2), (.int p3), (.int p4), (.int p5), (.int p6)] maxLocals)) (T109.setTop (mkF m 70 #[.val (.int p1), .val (.int p2), .val (.int p3), .val (.int p4), .val (.int p5), .val (.int p6), .val (.int (3 : Int32)), .val (.ref b91), .unset, .unset, .unset, .unset] [(.int k1), (.int o1), (.ref b109), (.ref b109)])) := ⟨_, rfl, pre115⟩
    have Z1 : n0 ≤ h109.size := Nat.le_trans Z0 K_112.1
    have pre117 : own_Go p e below (s₁.setTop (entryFrame m #[(.int p1), (.int p2), (.int p3), (.int p4), (.int p5), (.int p6)] maxLocals)) (T109.setTop (mkF m 74 #[.val (.int p1), .val (.int p2), .val (.int p3), .val (.int p4), .val (.int p5), .val (.int p6), .val (.int (3 : Int32)), .val (.ref b91), .unset, .unset, .unset, .unset] [(.ref b91), (.int p4), (.int p3), (.int k1), (.int o1), (.ref b109), (.ref b109)])) := fun t k => pre116 t (by
        show Steps p.tables e below (T109.setTop (mkF m 70 #[.val (.int p1), .val (.int p2), .val (.int p3), .val (.int p4), .val (.int p5), .val (.int p6), .val (.int (3 : Int32)), .val (.ref b91), .unset, .unset, .unset, .unset] [(.int k1), (.int o1), (.ref b109), (.ref b109)])) _
        refine XS.iloadN X109.here hx rfl (hb hby at_70) rfl ?_
        show Steps p.tables e below (T109.setTop (mkF m 71 #[.val (.int p1), .val (.int p2), .val (.int p3), .val (.int p4), .val (.int p5), .val (.int p6), .val (.int (3 : Int32)), .val (.ref b91), .unset, .unset, .unset, .unset] [(.int p3), (.int k1), (.int o1), (.ref b109), (.ref b109)])) _
        refine XS.iloadN X109.here hx rfl (hb hby at_71) rfl ?_
        show Steps p.tables e below (T109.setTop (mkF m 72 #[.val (.int p1), .val (.int p2), .val (.int p3), .val (.int p4), .val (.int p5), .val (.int p6), .val (.int (3 : Int32)), .val (.ref b91), .unset, .unset, .unset, .unset] [(.int p4), (.int p3), (.int k1), (.int o1), (.ref b109), (.ref b109)])) _
        refine XS.aload X109.here hx rfl (hb hby at_72) rfl rfl ?_
        exact k)
    obtain ⟨_, _, ⟨T118, L118, k118, n118⟩, -, X118, ⟨Lc118, hQ118, l118, y118, z118⟩, st118⟩ := X109.specialBack hx (y := (⟨"com/example/mullion/mullion/client/Shell$Event", "<init>", "(CCII[B)V"⟩ : MethodName)) rfl hown (mvT hZ (hw _ (List.mem_of_getElem? (i := 5) rfl))) (mvT hZ (hw _ (List.mem_of_getElem? (i := 6) rfl))) (mvT hZ (hw _ (List.mem_of_getElem? (i := 7) rfl))) (by decide) (backOf (W := 1) (rm2 l Z a0 hw [] b109 o1 k1 p3 p4 b91 h109 n0 Z1 A109 F_origin_109 F_kind_109 F_q0_109 F_q1_109 F_text_109 g_b109) hZ (hw _ (List.mem_of_getElem? (i := 7) rfl)) (hw _ (List.mem_of_getElem? (i := 3) rfl)) (by decide) (by decide)) (g := (mkF m 74 #[.val (.int p1), .val (.int p2), .val (.int p3), .val (.int p4), .val (.int p5), .val (.int p6), .val (.int (3 : Int32)), .val (.ref b91), .unset, .unset, .unset, .unset] [(.ref b91), (.int p4), (.int p3), (.int k1), (.int o1), (.ref b109), (.ref b109)])) rfl (by rw [hml]; rfl) (Steps.refl _) (a := b109) (argsL := [(.int o1), (.int k1), (.int p3), (.int p4), (.ref b91)]) (rest := [(.ref b109)]) (lenOf pd_0_0 rfl) rfl (by show 2 * 0 + _ ≤ _; exact Nat.le_of_eq rfl) (hb hby at_74) (fun _ _ => ⟨rfl, e109, (by decide : 2 + 0 ≤ _), (by decide : 8 + 0 ≤ _)⟩)
    dsimp only [Pt.U, Pt.locs, Pt.cells, Pt.slots] at X118 l118 y118 z118 st118 hQ118
    subst l118 y118 z118
    obtain ⟨rfl, N118q, K118, Fq0118, Fq1118, Ft118⟩ := hQ118
    have N118 := Fr.app N105 N118q
    have pre119 : own_Go p e below (s₁.setTop (entryFrame m #[(.int p1), (.int p2), (.int p3), (.int p4), (.int p5), (.int p6)] maxLocals)) (T118.setTop (mkF m 77 #[.val (.int p1), .val (.int p2), .val (.int p3), .val (.int p4), .val (.int p5), .val (.int p6), .val (.int (3 : Int32)), .val (.ref b91), .unset, .unset, .unset, .unset] [(.ref b109)])) := fun t k => pre117 t (st118.trans k)
    have Ex_120 := A109.keep K118
    have V_121 := V_111.keep K118 (ninS ne_b91_b109 nin0)
    have K_122 := K_112.trans K118 (allS (Or.inr sz_b109) all0)
    have Z2 : n0 ≤ T118.heap.size := Nat.le_trans Z0 K_122.1
    have pre123 : own_Go p e below (s₁.setTop (entryFrame m #[(.int p1), (.int p2), (.int p3), (.int p4), (.int p5), (.int p6)] maxLocals)) (T118.setTop (mkF m 113 #[.val (.int p1), .val (.int p2), .val (.int p3), .val (.int p4), .val (.int p5), .val (.int p6), .val (.int (3 : Int32)), .val (.ref b91), .val (.ref b109), .val (.int (0 : Int32)), .unset, .unset] [(.ref b109)])) := fun t k => pre119 t (by
        show Steps p.tables e below (T118.setTop (mkF m 77 #[.val (.int p1), .val (.int p2), .val (.int p3), .val (.int p4), .val (.int p5), .val (.int p6), .val (.int (3 : Int32)), .val (.ref b91), .unset, .unset, .unset, .unset] [(.ref b109)])) _
        refine XS.astore X118.here hx rfl (hb hby at_77) rfl rfl (l' := #[.val (.int p1), .val (.int p2), .val (.int p3), .val (.int p4), .val (.int p5), .val (.int p6), .val (.int (3 : Int32)), .val (.ref b91), .val (.ref b109), .unset, .unset, .unset]) rfl ?_
        show Steps p.tables e below (T118.setTop (mkF m 79 #[.val (.int p1), .val (.int p2), .val (.int p3), .val (.int p4), .val (.int p5), .val (.int p6), .val (.int (3 : Int32)), .val (.ref b91), .val (.ref b109), .unset, .unset, .unset] [])) _
        refine XS.iload X118.here hx rfl (hb hby at_79) rfl ?_
        show Steps p.tables e below (T118.setTop (mkF m 81 #[.val (.int p1), .val (.int p2), .val (.int p3), .val (.int p4), .val (.int p5), .val (.int p6), .val (.int (3 : Int32)), .val (.ref b91), .val (.ref b109), .unset, .unset, .unset] [(.int (3 : Int32))])) _
        refine XS.ifNo X118.here hx rfl (hb hby at_81) rfl (XT.i0_eq_f (by decide)) ?_
        show Steps p.tables e below (T118.setTop (mkF m 84 #[.val (.int p1), .val (.int p2), .val (.int p3), .val (.int p4), .val (.int p5), .val (.int p6), .val (.int (3 : Int32)), .val (.ref b91), .val (.ref b109), .unset, .unset, .unset] [])) _
        refine XS.iconst X118.here hx rfl (hb hby at_84) ?_
        show Steps p.tables e below (T118.setTop (mkF m 85 #[.val (.int p1), .val (.int p2), .val (.int p3), .val (.int p4), .val (.int p5), .val (.int p6), .val (.int (3 : Int32)), .val (.ref b91), .val (.ref b109), .unset, .unset, .unset] [(.int (0 : Int32))])) _
        refine XS.istore X118.here hx rfl (hb hby at_85) rfl (l' := #[.val (.int p1), .val (.int p2), .val (.int p3), .val (.int p4), .val (.int p5), .val (.int p6), .val (.int (3 : Int32)), .val (.ref b91), .val (.ref b109), .val (.int (0 : Int32)), .unset, .unset]) rfl ?_
        show Steps p.tables e below (T118.setTop (mkF m 87 #[.val (.int p1), .val (.int p2), .val (.int p3), .val (.int p4), .val (.int p5), .val (.int p6), .val (.int (3 : Int32)), .val (.ref b91), .val (.ref b109), .val (.int (0 : Int32)), .unset, .unset] [])) _
        refine XS.goto X118.here hx rfl (pc0 := 87) (pc' := 111) rfl (hb hby at_87) (by decide) (by decide) ?_
        show Steps p.tables e below (T118.setTop (mkF m 111 #[.val (.int p1), .val (.int p2), .val (.int p3), .val (.int p4), .val (.int p5), .val (.int p6), .val (.int (3 : Int32)), .val (.ref b91), .val (.ref b109), .val (.int (0 : Int32)), .unset, .unset] [])) _
        refine XS.aload X118.here hx rfl (hb hby at_111) rfl rfl ?_
        exact k)
    obtain ⟨cq124, kq124, q124a, q124b, q124c⟩ := isOf hZ rfl Ex_120
    obtain ⟨_, _, ⟨T124, L124, k124, n124⟩, -, X124, ⟨Lc124, hQ124, l124, y124, z124⟩, st124⟩ := X118.virtualBack hx (y := (⟨"com/example/mullion/mullion/client/Shell$Event", "leftOut", "()Z"⟩ : MethodName)) (z := (⟨"com/example/mullion/mullion/client/Shell$Event", "leftOut", "()Z"⟩ : MethodName)) hown (mvT hZ (hw _ (List.mem_of_getElem? (i := 26) rfl))) (mvT hZ (hw _ (List.mem_of_getElem? (i := 27) rfl))) (notFace_of_selects (args := #[]) (mvT hZ (hw _ (List.mem_of_getElem? (i := 29) rfl)))) (mvT hZ (hw _ (List.mem_of_getElem? (i := 29) rfl))) (mvT hZ (hw _ (List.mem_of_getElem? (i := 28) rfl))) (by decide) (backOf (W := 0) (rm3 l Z a0 hw [] b109 p3 p4 b91 (3 : Int32) _ T118.heap n0 Z2 Fq0118 Fq1118 Ft118 V_121) hZ (hw _ (List.mem_of_getElem? (i := 30) rfl)) (hw _ (List.mem_of_getElem? (i := 3) rfl)) (by decide) (by decide)) q124a q124c (g := (mkF m 113 #[.val (.int p1), .val (.int p2), .val (.int p3), .val (.int p4), .val (.int p5), .val (.int p6), .val (.int (3 : Int32)), .val (.ref b91), .val (.ref b109), .val (.int (0 : Int32)), .unset, .unset] [(.ref b109)])) rfl (by rw [hml]; rfl) (Steps.refl _) (argsL := []) (rest := []) (lenOf pd_0_1 rfl) rfl (by show 2 * 0 + _ ≤ _; exact Nat.le_of_eq rfl) (hb hby at_113) (fun _ _ => ⟨rfl, rfl, (by decide : 2 + 0 ≤ _), (by decide : 8 + 0 ≤ _)⟩)
    dsimp only [Pt.U, Pt.locs, Pt.cells, Pt.slots] at X124 l124 y124 z124 st124 hQ124
    subst l124 y124 z124
    obtain ⟨rfl, N124q, hh124⟩ := hQ124
    have N124 := Fr.app N118 N124q
    have pre125 : own_Go p e below (s₁.setTop (entryFrame m #[(.int p1), (.int p2), (.int p3), (.int p4), (.int p5), (.int p6)] maxLocals)) (T124.setTop (mkF m 116 #[.val (.int p1), .val (.int p2), .val (.int p3), .val (.int p4), .val (.int p5), .val (.int p6), .val (.int (3 : Int32)), .val (.ref b91), .val (.ref b109), .val (.int (0 : Int32)), .unset, .unset] [(.int (own_lo (3 : Int32) p3 p4))])) := fun t k => pre123 t (st124.trans k)
    have pre126 : own_Go p e below (s₁.setTop (entryFrame m #[(.int p1), (.int p2), (.int p3), (.int p4), (.int p5), (.int p6)] maxLocals)) (T124.setTop (mkF m 126 #[.val (.int p1), .val (.int p2), .val (.int p3), .val (.int p4), .val (.int p5), .val (.int p6), .val (.int (3 : Int32)), .val (.ref b91), .val (.ref b109), .val (.int (0 : Int32)), .unset, .unset] [(.int (1 : Int32))])) := fun t k => pre125 t (by
        show Steps p.tables e below (T124.setTop (mkF m 116 #[.val (.int p1), .val (.int p2), .val (.int p3), .val (.int p4), .val (.int p5), .val (.int p6), .val (.int (3 : Int32)), .val (.ref b91), .val (.ref b109), .val (.int (0 : Int32)), .unset, .unset] [(.int (own_lo (3 : Int32) p3 p4))])) _
        refine XS.iload X124.here hx rfl (hb hby at_116) rfl ?_
        show Steps p.tables e below (T124.setTop (mkF m 118 #[.val (.int p1), .val (.int p2), .val (.int p3), .val (.int p4), .val (.int p5), .val (.int p6), .val (.int (3 : Int32)), .val (.ref b91), .val (.ref b109), .val (.int (0 : Int32)), .unset, .unset] [(.int (0 : Int32)), (.int (own_lo (3 : Int32) p3 p4))])) _
        refine XS.icmpNo X124.here hx rfl (hb hby at_118) rfl (XT.ii_ne_f (own_lo0 fun q => absurd q.1 (by decide))) ?_
        show Steps p.tables e below (T124.setTop (mkF m 121 #[.val (.int p1), .val (.int p2), .val (.int p3), .val (.int p4), .val (.int p5), .val (.int p6), .val (.int (3 : Int32)), .val (.ref b91), .val (.ref b109), .val (.int (0 : Int32)), .unset, .unset] [])) _
        refine XS.iconst X124.here hx rfl (hb hby at_121) ?_
        show Steps p.tables e below (T124.setTop (mkF m 122 #[.val (.int p1), .val (.int p2), .val (.int p3), .val (.int p4), .val (.int p5), .val (.int p6), .val (.int (3 : Int32)), .val (.ref b91), .val (.ref b109), .val (.int (0 : Int32)), .unset, .unset] [(.int (1 : Int32))])) _
        refine XS.goto X124.here hx rfl (pc0 := 122) (pc' := 126) rfl (hb hby at_122) (by decide) (by decide) ?_
        exact k)
    obtain ⟨fs, hr, hrun, hended, hW, hsame⟩ := X124.leave (v := some (.int (1 : Int32))) (fun h => by rw [Bd.returns] at h; cases h)
    refine ⟨_, _, pre126 _ ?_, hrun, hended, _, _, rfl, ?_, ⟨_, rfl⟩, hW, hsame.mono (by decide) (by decide)⟩
    · show Steps p.tables e below (T124.setTop (mkF m 126 #[.val (.int p1), .val (.int p2), .val (.int p3), .val (.int p4), .val (.int p5), .val (.int p6), .val (.int (3 : Int32)), .val (.ref b91), .val (.ref b109), .val (.int (0 : Int32)), .unset, .unset] [(.int (1 : Int32))])) _
      exact retN X124 hx (t := .boolean) Bd.returns (by simp) (hb hby at_126) hr
    · show Q0 Z p1 p2 p3 p4 p5 p6 h0 n0 _ T124.heap _
      exact ⟨rfl, N124⟩
set_option maxRecDepth 65536 in
set_option maxHeartbeats 40000000 in
theorem comes_1 {Post : Tables → Env → Array Value → State → Outcome → State → Prop} (hpost : ∀ tb e args s v u, (limb_1_1.after args s (.returned v) u = true ∧ limb_1_2.after args s (.returned v) u = true ∧ True) → FrameEnd s (.returned v) u (Jvm.fieldLocs frame_1_writes args s ++ Jvm.arrayLocs frame_1_arrays args s ++ Jvm.staticLocs frame_1_statics s) 16 128 → Post tb e args s (.returned v) u) :
    ArmFor flags0 classFile x code maxLocals ret World_1 tables_1 room_1 Calls_1 rest_1 Pre_1 Post := by
  intro l hfl _ _ p e ha hc hk s m args below hf hA hF happ hP
  obtain ⟨hcalls, hrest, hpre⟩ := hP
  obtain ⟨-, -, -, hnamed, -, -, -, hat⟩ := (Spec.applies_iff hf).mp happ
  obtain ⟨hg, hn⟩ := and_e (Cond.before_iff.mp (show (Jvm.Cond.and given_1 narrow_1).before args s = true from hpre))
  obtain ⟨gc, q0⟩ := and_e hg
  obtain ⟨ga0, q1⟩ := and_e q0
  obtain ⟨ga1, q2⟩ := and_e q1
  obtain ⟨ga2, q3⟩ := and_e q2
  obtain ⟨ga3, q4⟩ := and_e q3
  obtain ⟨ga4, q5⟩ := and_e q4
  have ga5 := q5
  obtain ⟨w0, w1, w2, w3, w4, w5, rfl⟩ : ∃ w0 w1 w2 w3 w4 w5 : Value, args = #[w0, w1, w2, w3, w4, w5] := by
    have hs : args.size = 6 := by simpa [Cond.value, given_1] using gc
    obtain ⟨L⟩ := args
    match L, hs with
    | [w0, w1, w2, w3, w4, w5], _ => exact ⟨w0, w1, w2, w3, w4, w5, rfl⟩
  have hw := fun d (hd : d ∈ tables_1) => atoms_spec (ws := Jvm.Cond.code x code maxLocals ret :: tables_1) hat d (List.mem_cons_of_mem _ hd)
  obtain ⟨i0, ei0⟩ := is_v ga0
  obtain rfl : w0 = (.int i0) := Option.some.inj ei0
  obtain ⟨i1, ei1⟩ := is_v ga1
  obtain rfl : w1 = (.int i1) := Option.some.inj ei1
  obtain ⟨i2, ei2⟩ := is_v ga2
  obtain rfl : w2 = (.int i2) := Option.some.inj ei2
  obtain ⟨i3, ei3⟩ := is_v ga3
  obtain rfl : w3 = (.int i3) := Option.some.inj ei3
  obtain ⟨i4, ei4⟩ := is_v ga4
  obtain rfl : w4 = (.int i4) := Option.some.inj ei4
  obtain ⟨i5, ei5⟩ := is_v ga5
  obtain rfl : w5 = (.int i5) := Option.some.inj ei5
  obtain ⟨n, o, h1, h2, h3, _, L, rfl, ⟨rfl, N⟩, hq⟩ := rm0 l s _ hw tables_1 i0 i1 i2 i3 i4 i5 s.heap s.heap.size (Nat.le_refl _)  p e ha hc hk s m _ below hf ((Spec.applies_iff_loose hf).mp happ).1 ⟨rfl, State.Warmed39.refl s, rfl⟩ trivial
  refine ⟨n, _, h1, h2, h3, hpost _ _ _ _ _ _ ⟨Cond.after_iff.mpr rfl, Cond.after_iff.mpr (eq_i res_at (Term.int_eval (1)) rfl), trivial⟩ ⟨hq.1, hq.2.1, (hq.2.2.sift fun y hy => Or.inr (N y hy)).mono (by decide) (by decide)⟩⟩
theorem main_1_1 : Claimed_1_1 := comes_1 fun _ _ _ _ _ _ h hF => ⟨h.1, hF⟩
theorem main_1_2 : Claimed_1_2 := comes_1 fun _ _ _ _ _ _ h hF => ⟨h.2.1, hF⟩
end Jvm.Pilot.@@N@@
namespace Jvm.Pilot.@@N@@
open Jvm Jvm.ClassFile Sem Op Lib Jvm.Free Jvm.Stand Jvm.Pilot.@@N@@.Jvm.D
/-! MADE BY PROGRAM (witnessworld.py) out of the Statement's table words and the real class files: 10 classes; the members and pool entries that the words name. The judged class is class 1, her method 1. -/
namespace start1
open Jvm.ClassFile
def u (s : String) : CpInfo := .utf8 (stringToUtf16 s)
/-- a pool by its gaps: so many unusable entries, then the entry; so many at the end -/
def gap : Nat → List CpInfo → List CpInfo
  | 0, r => r
  | n + 1, r => .unusable :: gap n r
def poolList (es : List (Nat × CpInfo)) (last : Nat) : List CpInfo := es.foldr (fun e r => gap e.1 (e.2 :: r)) (gap last [])
def pool (es : List (Nat × CpInfo)) (last : Nat) : Array CpInfo := ⟨poolList es last⟩
def fileOf (pool : Array CpInfo) (this : Nat) (attrs : Array Attribute := #[]) (ms : Array MethodInfo := #[]) (fl : Nat := 33) (sup : Nat := 0) (ifs : Array Nat := #[]) (fds : Array FieldInfo := #[]) : ClassFile where
  minorVersion := 0
  majorVersion := 65
  constantPool := pool
  accessFlags := fl
  thisClass := this
  superClass := sup
  interfaces := ifs
  fields := fds
  methods := ms
  attributes := attrs
def plain (name : String) (sup : Option ClassId) : Class where
  name := name
  kind := .ordinary
  loader := none
  accessFlags := 33
  super := sup
  interfaces := #[]
  cf := none
  fields := #[]
  methods := #[]
  instanceTypes := #[]
  staticTypes := #[]
  resolved := #[]
  callSites := []
  init := .initialized
  statics := none
  mirror := none

def pool0 : Array CpInfo := pool [(5, u "<init>"), (0, u "()V"), (1, .class_ 10), (1, u "java/lang/Object")] 113

def k0c0 : Code := { maxStack := 0, maxLocals := 1, code := object_method_1_code, exceptionTable := #[], attributes := #[] }
def k0m0 : Method := { name := "<init>", desc := "()V", sig := { parameters := [], returnType := none }, accessFlags := 1, code := some k0c0 }
/-- java/lang/Object -/
def k0 : Class := { plain "java/lang/Object" none with
  accessFlags := 33
  interfaces := #[]
  cf := some (fileOf pool0 8 #[] #[{ accessFlags := 1, nameIndex := 5, descriptorIndex := 6, attributes := #[] }] 33 0 #[] #[])
  fields := #[]
  methods := #[k0m0]
  instanceTypes := #[]
  staticTypes := #[]
  resolved := Array.replicate 124 none
  statics := none }

def pool1 : Array CpInfo := pool [(2, .class_ 4), (1, u "java/lang/Object"), (0, u "<init>"), (0, u "()V"), (0, .class_ 8), (0, u "com/example/mullion/mullion/client/Shell$Event"), (0, .integer 65535), (0, .methodref 7 11), (0, .nameAndType 5 12), (0, u "(CCII[B)V"), (0, .methodref 7 14), (0, .nameAndType 15 16), (0, u "leftOut"), (0, u "()Z"), (0, .class_ 18), (0, u "com/example/mullion/mullion/client/ShellLeftOutPinLaw"), (2, u "law"), (0, u "(IIIIII)Z")] 9

def k1m0 : Method := { name := "<init>", desc := "()V", sig := { parameters := [], returnType := none }, accessFlags := 2, code := none }
def k1c1 : Code := { maxStack := 7, maxLocals := 12, code := code, exceptionTable := #[], attributes := #[] }
def k1m1 : Method := { name := "law", desc := "(IIIIII)Z", sig := { parameters := [.int, .int, .int, .int, .int, .int], returnType := some .boolean }, accessFlags := 9, code := some k1c1 }
/-- com/example/mullion/mullion/client/ShellLeftOutPinLaw -/
def k1 : Class := { plain "com/example/mullion/mullion/client/ShellLeftOutPinLaw" (some 0) with
  accessFlags := 49
  interfaces := #[]
  cf := some (fileOf pool1 17 #[] #[{ accessFlags := 2, nameIndex := 5, descriptorIndex := 6, attributes := #[] }, { accessFlags := 9, nameIndex := 21, descriptorIndex := 22, attributes := #[] }] 49 2 #[] #[])
  fields := #[]
  methods := #[k1m0, k1m1]
  instanceTypes := #[]
  staticTypes := #[]
  resolved := Array.replicate 32 none
  statics := none }

def pool2 : Array CpInfo := pool [(1, .methodref 2 3), (0, .class_ 4), (0, .nameAndType 5 6), (0, u "java/lang/Object"), (0, u "<init>"), (0, u "()V"), (0, .class_ 8), (0, u "java/lang/Record")] 13

def k2c0 : Code := { maxStack := 1, maxLocals := 1, code := jdk_30_method_1_code, exceptionTable := #[], attributes := #[] }
def k2m0 : Method := { name := "<init>", desc := "()V", sig := { parameters := [], returnType := none }, accessFlags := 4, code := some k2c0 }
/-- java/lang/Record -/
def k2 : Class := { plain "java/lang/Record" (some 0) with
  accessFlags := 1057
  interfaces := #[]
  cf := some (fileOf pool2 7 #[] #[{ accessFlags := 4, nameIndex := 5, descriptorIndex := 6, attributes := #[] }] 1057 2 #[] #[])
  fields := #[]
  methods := #[k2m0]
  instanceTypes := #[]
  staticTypes := #[]
  resolved := Array.replicate 22 none
  statics := none }

def pool3 : Array CpInfo := pool [(1, .methodref 2 3), (0, .class_ 4), (0, .nameAndType 5 6), (0, u "java/lang/Record"), (0, u "<init>"), (0, u "()V"), (0, .fieldref 8 9), (0, .class_ 10), (0, .nameAndType 11 12), (0, u "com/example/mullion/mullion/client/Shell$Event"), (0, u "origin"), (0, u "C"), (0, .fieldref 8 14), (0, .nameAndType 15 12), (0, u "kind"), (0, .fieldref 8 17), (0, .nameAndType 18 19), (0, u "q0"), (0, u "I"), (0, .fieldref 8 21), (0, .nameAndType 22 19), (0, u "q1"), (0, .fieldref 8 24), (0, .nameAndType 25 26), (0, u "text"), (0, u "[B"), (2, u "leftOut"), (0, u "()Z"), (12, u "(CCII[B)V"), (14, .class_ 59), (0, u "com/example/mullion/mullion/client/Shell")] 23

def k3c0 : Code := { maxStack := 2, maxLocals := 6, code := prog_3_method_1_code, exceptionTable := #[], attributes := #[] }
def k3m0 : Method := { name := "<init>", desc := "(CCII[B)V", sig := { parameters := [.char, .char, .int, .int, (.array .byte)], returnType := none }, accessFlags := 0, code := some k3c0 }
def k3c1 : Code := { maxStack := 2, maxLocals := 1, code := prog_3_method_2_code, exceptionTable := #[], attributes := #[] }
def k3m1 : Method := { name := "leftOut", desc := "()Z", sig := { parameters := [], returnType := some .boolean }, accessFlags := 0, code := some k3c1 }
/-- com/example/mullion/mullion/client/Shell$Event -/
def k3 : Class := { plain "com/example/mullion/mullion/client/Shell$Event" (some 2) with
  accessFlags := 48
  interfaces := #[]
  cf := some (fileOf pool3 8 #[.nestHost 58] #[{ accessFlags := 0, nameIndex := 5, descriptorIndex := 43, attributes := #[] }, { accessFlags := 0, nameIndex := 29, descriptorIndex := 30, attributes := #[] }] 48 2 #[] #[{ accessFlags := 18, nameIndex := 11, descriptorIndex := 12, attributes := #[] }, { accessFlags := 18, nameIndex := 15, descriptorIndex := 12, attributes := #[] }, { accessFlags := 18, nameIndex := 18, descriptorIndex := 19, attributes := #[] }, { accessFlags := 18, nameIndex := 22, descriptorIndex := 19, attributes := #[] }, { accessFlags := 18, nameIndex := 25, descriptorIndex := 26, attributes := #[] }])
  fields := #[{ name := "origin", type := .char, accessFlags := 18, slot := 0, constantValue := 0 }, { name := "kind", type := .char, accessFlags := 18, slot := 1, constantValue := 0 }, { name := "q0", type := .int, accessFlags := 18, slot := 2, constantValue := 0 }, { name := "q1", type := .int, accessFlags := 18, slot := 3, constantValue := 0 }, { name := "text", type := (.array .byte), accessFlags := 18, slot := 4, constantValue := 0 }]
  methods := #[k3m0, k3m1]
  instanceTypes := #[.char, .char, .int, .int, (.array .byte)]
  staticTypes := #[]
  resolved := Array.replicate 83 none
  statics := none }

def pool4 : Array CpInfo := pool [(1, u "java/lang/Cloneable"), (0, .class_ 1), (0, u "java/lang/Object"), (0, .class_ 3)] 3

/-- java/lang/Cloneable -/
def k4 : Class := { plain "java/lang/Cloneable" (some 0) with
  accessFlags := 1537
  interfaces := #[]
  cf := some (fileOf pool4 2 #[] #[] 1537 4 #[] #[])
  fields := #[]
  methods := #[]
  instanceTypes := #[]
  staticTypes := #[]
  resolved := Array.replicate 8 none
  statics := none }

def pool5 : Array CpInfo := pool [(1, u "java/io/Serializable"), (0, .class_ 1), (0, u "java/lang/Object"), (0, .class_ 3)] 3

/-- java/io/Serializable -/
def k5 : Class := { plain "java/io/Serializable" (some 0) with
  accessFlags := 1537
  interfaces := #[]
  cf := some (fileOf pool5 2 #[] #[] 1537 4 #[] #[])
  fields := #[]
  methods := #[]
  instanceTypes := #[]
  staticTypes := #[]
  resolved := Array.replicate 8 none
  statics := none }

/-- the primitive byte -/
def k6 : Class := { plain "byte" none with kind := .primitive 'B', accessFlags := 0x411 }
/-- [B -/
def k7 : Class := { plain "[B" (some 0) with kind := .array 6 .byte, interfaces := #[4, 5], accessFlags := 1041 }

/-- the primitive int -/
def k8 : Class := { plain "int" none with kind := .primitive 'I', accessFlags := 0x411 }
/-- [I -/
def k9 : Class := { plain "[I" (some 0) with kind := .array 8 .int, interfaces := #[4, 5], accessFlags := 1041 }

def heap : Heap := #[]
def classes : Array Class := #[k0, k1, k2, k3, k4, k5, k6, k7, k8, k9]
def interned : List (Array UInt16 × Addr) := []
def slotsUsed : Nat := 0
def theMethod : MethodId := ⟨1, 1⟩
def args0 : Array Value := #[.int 5, .int 6, .int 7, .int 3, .int 2, .int 9]
def aboutOver (below : List Frame) : State where
  vm := { classes := classes, interned := interned.toArray }
  heap := heap
  slotsUsed := slotsUsed
  threads := #[{ frames := .invoking theMethod args0 :: below }]
def below0 : List Frame := [.native { method := ⟨0, 0⟩, args := #[] }]
def about1 : State := aboutOver below0
def p0 : Program := .bare "" "" ""
def e0 : Env := launch0.env 0 0 0
theorem w_frames : about1.frames = Frame.invoking theMethod args0 :: below0 := rfl
set_option maxRecDepth 65536 in
theorem w_args : argsFit about1.vm theMethod args0 = true := by decide +kernel
set_option maxRecDepth 65536 in
theorem w_heap : heapFits about1 = true := by decide +kernel
set_option maxRecDepth 65536 in
theorem w_runnable : about1.curStatus? = some .runnable := by decide +kernel
set_option maxRecDepth 65536 in
theorem w_alone : about1.alone = true := by decide +kernel
set_option maxRecDepth 65536 in
theorem w_named : about1.methodNamed? x = some theMethod := by decide +kernel
set_option maxRecDepth 65536 in
theorem w_hears : about1.hears theMethod below0 = true := by decide +kernel
set_option maxRecDepth 65536 in
theorem w_ripe : about1.ripe theMethod args0 below0 = true := by decide +kernel
theorem w_running : about1.status = .running := rfl
set_option maxRecDepth 65536 in
theorem w_room : about1.hasRoom e0.platform room_1 = true :=
  launch0.hasRoom_least _ room_1 (by decide +kernel) (by decide +kernel) (by decide +kernel) (by decide +kernel) (by decide +kernel) (by decide +kernel)
theorem allAtoms_all (ts : List Jvm.Cond) (a : Array Jvm.Value) (st : Jvm.State) : (allAtoms ts).before a st = ts.all (fun c => c.before a st) := by
  induction ts with
  | nil => rfl
  | cons c t ih =>
    show (Jvm.Cond.and c (allAtoms t)).before a st = _
    rw [Jvm.Cond.before_and, ih, List.all_cons]
def words1 : List Jvm.Cond := Jvm.Cond.code x code maxLocals ret :: tables_1
/-- a 'code' word, met by the world's own term for the bytes: nothing is compared byte by byte -/
theorem code_word {y : MethodName} {bytes : ByteArray} {mx : Nat} {rt : Option FieldType} {a : Array Value} {s : State} {m : MethodId} {meth : Method} {c : Code} (h1 : s.methodNamed? y = some m) (h2 : s.vm.method? m = some meth) (h3 : meth.code = some c) (h4 : c.code = bytes)
    (h5 : (c.maxLocals == mx && c.exceptionTable.isEmpty && decide (c.maxStack ≤ mostOperands) && decide (meth.sig.returnType = rt) && !meth.locks && decide (parseMethodDescriptor y.desc = some meth.sig)) = true) : (Jvm.Cond.code y bytes mx rt).before a s = true := by
  simp only [Bool.and_eq_true, beq_iff_eq, Bool.not_eq_true', decide_eq_true_eq] at h5
  obtain ⟨⟨⟨⟨⟨g1, g2⟩, g3⟩, g4⟩, g5⟩, g6⟩ := h5
  simp [Cond.before, Cond.holds, Cond.value, h1, h2, h3, h4, g1, g2, g3, g4, g5, g6]
def isCode : Jvm.Cond → Bool
  | .code _ _ _ _ => true
  | _ => false
theorem all_split {L : List Jvm.Cond} {P : Jvm.Cond → Bool} (h1 : L.all (fun c => isCode c || P c) = true) (h2 : ∀ c ∈ L.filter isCode, P c = true) : L.all P = true := by
  refine List.all_eq_true.mpr fun c hc => ?_
  have h := List.all_eq_true.mp h1 c hc
  rcases Bool.eq_false_or_eq_true (isCode c) with hi | hi
  · exact h2 c (List.mem_filter.mpr ⟨hc, hi⟩)
  · simpa [hi] using h
set_option maxRecDepth 65536 in
theorem w_c0 : (Jvm.Cond.code x code maxLocals ret).before args0 about1 = true := code_word (m := ⟨1, 1⟩) (meth := k1m1) (c := k1c1) (by decide +kernel) rfl rfl rfl (by decide +kernel)
set_option maxRecDepth 65536 in
theorem w_c1 : (Jvm.Cond.code ({ cls := "com/example/mullion/mullion/client/Shell$Event", name := "<init>", desc := "(CCII[B)V" } : Jvm.MethodName) prog_3_method_1_code (6 : Nat) (Option.none : Option Jvm.ClassFile.FieldType)).before args0 about1 = true := code_word (m := ⟨3, 0⟩) (meth := k3m0) (c := k3c0) (by decide +kernel) rfl rfl rfl (by decide +kernel)
set_option maxRecDepth 65536 in
theorem w_c2 : (Jvm.Cond.code ({ cls := "java/lang/Record", name := "<init>", desc := "()V" } : Jvm.MethodName) jdk_30_method_1_code (1 : Nat) (Option.none : Option Jvm.ClassFile.FieldType)).before args0 about1 = true := code_word (m := ⟨2, 0⟩) (meth := k2m0) (c := k2c0) (by decide +kernel) rfl rfl rfl (by decide +kernel)
set_option maxRecDepth 65536 in
theorem w_c3 : (Jvm.Cond.code ({ cls := "java/lang/Object", name := "<init>", desc := "()V" } : Jvm.MethodName) object_method_1_code (1 : Nat) (Option.none : Option Jvm.ClassFile.FieldType)).before args0 about1 = true := code_word (m := ⟨0, 0⟩) (meth := k0m0) (c := k0c0) (by decide +kernel) rfl rfl rfl (by decide +kernel)
set_option maxRecDepth 65536 in
theorem w_c4 : (Jvm.Cond.code ({ cls := "com/example/mullion/mullion/client/Shell$Event", name := "leftOut", desc := "()Z" } : Jvm.MethodName) prog_3_method_2_code (1 : Nat) (Option.some Jvm.ClassFile.FieldType.boolean)).before args0 about1 = true := code_word (m := ⟨3, 1⟩) (meth := k3m1) (c := k3c1) (by decide +kernel) rfl rfl rfl (by decide +kernel)
def codes1 : List Jvm.Cond := [Jvm.Cond.code x code maxLocals ret, Jvm.Cond.code ({ cls := "com/example/mullion/mullion/client/Shell$Event", name := "<init>", desc := "(CCII[B)V" } : Jvm.MethodName) prog_3_method_1_code (6 : Nat) (Option.none : Option Jvm.ClassFile.FieldType), Jvm.Cond.code ({ cls := "java/lang/Record", name := "<init>", desc := "()V" } : Jvm.MethodName) jdk_30_method_1_code (1 : Nat) (Option.none : Option Jvm.ClassFile.FieldType), Jvm.Cond.code ({ cls := "java/lang/Object", name := "<init>", desc := "()V" } : Jvm.MethodName) object_method_1_code (1 : Nat) (Option.none : Option Jvm.ClassFile.FieldType), Jvm.Cond.code ({ cls := "com/example/mullion/mullion/client/Shell$Event", name := "leftOut", desc := "()Z" } : Jvm.MethodName) prog_3_method_2_code (1 : Nat) (Option.some Jvm.ClassFile.FieldType.boolean)]
set_option maxRecDepth 65536 in
theorem codes_eq : words1.filter isCode = codes1 := rfl
theorem w_codes : ∀ c ∈ words1.filter isCode, c.before args0 about1 = true := by
  rw [codes_eq]
  intro c hc
  simp only [codes1, List.mem_cons, List.not_mem_nil, or_false] at hc
  rcases hc with rfl | rfl | rfl | rfl | rfl
  · exact w_c0
  · exact w_c1
  · exact w_c2
  · exact w_c3
  · exact w_c4
set_option maxRecDepth 65536 in
theorem w_t1 : (words1.take 24).all (fun c => isCode c || c.before args0 about1) = true := by decide +kernel
set_option maxRecDepth 65536 in
theorem w_t2 : (words1.drop 24).all (fun c => isCode c || c.before args0 about1) = true := by decide +kernel
theorem w_tables : (allAtoms (Jvm.Cond.code x code maxLocals ret :: tables_1)).before args0 about1 = true := by
  rw [allAtoms_all]
  show words1.all (fun c => c.before args0 about1) = true
  refine all_split ?_ w_codes
  rw [← List.take_append_drop 24 words1, List.all_append, w_t1, w_t2]
  rfl
set_option maxRecDepth 65536 in
theorem w_case : (Jvm.Cond.and given_1 narrow_1).before args0 about1 = true := by decide +kernel
theorem w_applies : (headSpec (Jvm.Cond.code x code maxLocals ret :: tables_1) room_1).applies x e0.platform about1 = true :=
  (Spec.applies_iff w_frames).mpr ⟨w_running, w_runnable, w_alone, w_named, w_hears, w_ripe, w_room, w_tables⟩
theorem atStart : AtStart classFile x code maxLocals ret World_1 tables_1 room_1 Calls_1 rest_1 Pre_1 launch0 p0 e0 about1 theMethod args0 below0 :=
  ⟨lists_1, trivial, launch0.admits_env _ _ _, launch0.least_env, fairChoices_fair.cas, fairChoices_fair.clock, w_frames, w_args, w_heap, w_applies, trivial, trivial, w_case⟩
end start1
theorem witness_1 : WitnessClaimed_1 := ⟨start1.p0, start1.e0, start1.about1, start1.theMethod, start1.args0, start1.below0, start1.atStart⟩
end Jvm.Pilot.@@N@@
