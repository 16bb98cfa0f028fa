import JvmDerived
import JvmDerived.Pilot.@@N@@Statement
import JvmDerived.Pilot.@@N@@Code
set_option linter.unusedVariables false
set_option linter.unusedSimpArgs false
namespace Jvm.RoadKit
open Sem ClassFile Op Lib Jvm.Stand Jvm.Free Jvm.LawKit
section New
variable {p : Program} {l : Launch} {e : Env} {R : Room} {s : State} {m : MethodId} {args : Array Value} {below : List Frame} {meth : Method} {c : Code} {T : State} {locs : List Loc} {cells slots : Nat}
theorem retI (X : Stand p l e R s m args below meth c T locs cells slots) (hx : p.tables.exec = Jvm.exec) {pc : Nat} {Ls : Array Slot} {z : Int32} {rest : List Value} (hret : meth.sig.returnType = some .int) (hd : decode c.code pc = .ok (.ireturn, 1)) {fs : List Frame}
    (hl : ∀ (f : JFrame) (acts : List Action), f.method = m → f.locked = none → f.entered = [] → (doReturn e (T.setTop f) acts (some (.int z))).1 = T.setFrames fs) : Steps p.tables e below (T.setTop (mkF m pc Ls (.int z :: rest))) (T.setFrames fs) := by
  have hm' : T.vm.method? m = some meth := X.method'
  have hn : narrow .int (.int z) = .int z := rfl
  show Steps p.tables e below (T.setTop { method := m, pc := pc, locals := Ls, stack := _ :: rest, locked := none }) _
  jvm_step X.here [X.here.top, hx, hd, hm', hret, hn]
  first | (intro acts; rw [hl _ acts rfl rfl rfl]) | rw [hl _ _ rfl rfl rfl]
  exact Steps.refl _
end New
end Jvm.RoadKit
namespace Jvm.Pilot.@@N@@
open Jvm Jvm.ClassFile Sem Op Lib Jvm.Free Jvm.Stand Jvm.LawKit Jvm.RoadKit Bundle Jvm.Pilot.@@N@@.Jvm.D
def own_Go (p : Program) (e : Env) (below : List Frame) (A B : State) : Prop := ∀ t, Steps p.tables e below B t → Steps p.tables e below A t
/-- an array of ints, bytes or booleans at a: its kind, its length, its values -/
def own_A (Z : State) (h : Heap) (a : Addr) (ty : FieldType) (n : Int32) (f : Nat → Int32) : Prop := ∃ c : Cell, Arr Z h a c ty ∧ c.slots.size = n.toNatClampNeg ∧ ¬ n < 0 ∧ ∀ i, i < c.slots.size → c.slots[i]? = some (.int (f i)) ∧ fits ty (.int (f i)) = true
def own_upd (f : Nat → Int32) (j : Nat) (x : Int32) : Nat → Int32 := fun i => if i = j then x else f i
theorem own_upd_hit (f : Nat → Int32) {i j : Nat} (x : Int32) (h : i = j) : own_upd f j x i = x := if_pos h
theorem own_upd_miss (f : Nat → Int32) {i j : Nat} (x : Int32) (h : ¬ i = j) : own_upd f j x i = f i := if_neg h
theorem own_A.lt {Z : State} {h : Heap} {a : Addr} {ty : FieldType} {n : Int32} {f : Nat → Int32} (F : own_A Z h a ty n f) : a < h.size := by obtain ⟨c, A, -⟩ := F; exact A.lt
theorem own_A.ext {Z : State} {h h' : Heap} {a : Addr} {ty : FieldType} {n : Int32} {f : Nat → Int32} (F : own_A Z h a ty n f) (E : Ext h h') : own_A Z h' a ty n f := by obtain ⟨c, A, r⟩ := F; exact ⟨c, A.ext E, r⟩
theorem own_A.other {Z : State} {h h' : Heap} {a b : Addr} {sl : Nat} {v : Value} {ty : FieldType} {n : Int32} {f : Nat → Int32} (F : own_A Z h b ty n f) (W : Wr h h' a sl v) (q : b ≠ a) : own_A Z h' b ty n f := by obtain ⟨c, A, r⟩ := F; exact ⟨c, A.other W q, r⟩
theorem own_A.keep {Z : State} {h h' : Heap} {a : Addr} {ws : List Addr} {ty : FieldType} {n : Int32} {f : Nat → Int32} (F : own_A Z h a ty n f) (K : Keep h h' ws) (q : a ∉ ws) : own_A Z h' a ty n f := by obtain ⟨c, A, r⟩ := F; exact ⟨c, ⟨K.2.1 a c A.1 q, A.2⟩, r⟩
theorem own_A.new {Z : State} {h : Heap} {a : Addr} {k : ClassId} {ty : FieldType} {n : Int32} (A : Arr Z h a (newA k ty n) ty) (q : ¬ n < 0) (hd : defaultValue ty = .int 0) (hf : fits ty (.int 0) = true) : own_A Z h a ty n (fun _ => 0) :=
  ⟨_, A, sz_new _ _ _, q, fun i hi => by
    have hi' : i < n.toNatClampNeg := by rw [sz_new] at hi; exact hi
    exact ⟨by simp [newA, hd, hi'], hf⟩⟩
theorem own_A.set {Z : State} {h h' : Heap} {a : Addr} {ty : FieldType} {n j x : Int32} {f : Nat → Int32} (F : own_A Z h a ty n f) (W : Wr h h' a j.toNatClampNeg (.int x)) (hf : fits ty (.int x) = true) : own_A Z h' a ty n (own_upd f j.toNatClampNeg x) := by
  obtain ⟨c, A, S, N, G⟩ := F
  refine ⟨_, A.same W, by rw [sz_set]; exact S, N, fun i hi => ?_⟩
  rw [sz_set] at hi
  have g := G i hi
  by_cases q : i = j.toNatClampNeg
  · rw [own_upd_hit f x q, q]
    rw [q] at hi
    exact ⟨by simp [Cell.setSlot, hi], hf⟩
  · rw [own_upd_miss f x q]
    refine ⟨?_, g.2⟩
    rw [← g.1]
    simp only [Cell.setSlot]
    rw [Array.getElem?_setIfInBounds_ne (Ne.symm q)]
theorem own_A.at {Z : State} {h : Heap} {a : Addr} {ty : FieldType} {n : Int32} {f : Nat → Int32} (F : own_A Z h a ty n f) {j : Int32} (j0 : ¬ j < 0) (jn : j < n) : ∃ c : Cell, Arr Z h a c ty ∧ ¬ (j < 0 ∨ c.slots.size ≤ j.toNatClampNeg) ∧ c.slots[j.toNatClampNeg]? = some (.int (f j.toNatClampNeg)) := by
  obtain ⟨c, A, S, N, G⟩ := F
  have hin := inb_of S ⟨j0, jn⟩
  exact ⟨c, A, hin, (G _ (Nat.lt_of_not_le fun y => hin (Or.inr y))).1⟩
theorem own_A.len {Z : State} {h : Heap} {a : Addr} {ty : FieldType} {n : Int32} {f : Nat → Int32} (F : own_A Z h a ty n f) : ∃ c : Cell, Arr Z h a c ty ∧ c.slots.size.toInt32 = n := by
  obtain ⟨c, A, S, N, G⟩ := F
  exact ⟨c, A, len_of S N⟩
theorem own_A.cast {Z : State} {h : Heap} {a : Addr} {ty : FieldType} {n : Int32} {f g : Nat → Int32} (F : own_A Z h a ty n f) (q : ∀ i, i < n.toNatClampNeg → f i = g i) : own_A Z h a ty n g := by
  obtain ⟨c, A, S, N, G⟩ := F
  exact ⟨c, A, S, N, fun i hi => by rw [← q i (S ▸ hi)]; exact G i hi⟩
theorem own_z0 : (0 : Int32).toNatClampNeg = 0 := by decide
theorem own_A.arv {Z : State} {h : Heap} {a : Addr} {ty : FieldType} {n : Int32} {f : Nat → Int32} (F : own_A Z h a ty n f) : ∃ k, Arv Z h a k ty n ((List.range n.toNatClampNeg).map fun i => Value.int (f i)) (.int 0) := by
  obtain ⟨c, A, S, N, G⟩ := F
  have q : ∀ i, i < c.slots.size → ((List.range n.toNatClampNeg).map fun i => Value.int (f i)).getD i (.int 0) = .int (f i) := fun i hi => by
    have hi' : i < n.toNatClampNeg := S ▸ hi
    simp [List.getD_eq_getElem?_getD, hi']
  exact ⟨c.cls, c, A, rfl, S, N, fun i hi => by rw [q i hi]; exact (G i hi).1, fun i hi => by rw [q i hi]; exact (G i hi).2⟩
theorem own_A.of_arv {Z : State} {h : Heap} {a : Addr} {k : ClassId} {ty : FieldType} {n : Int32} {vs : List Value} {dv : Value} {g : Nat → Int32} (F : Arv Z h a k ty n vs dv) (q : ∀ i, i < n.toNatClampNeg → vs.getD i dv = .int (g i)) : own_A Z h a ty n g := by
  obtain ⟨c, A, -, S, N, H, G⟩ := F
  exact ⟨c, A, S, N, fun i hi => ⟨by rw [← q i (S ▸ hi)]; exact H i hi, by rw [← q i (S ▸ hi)]; exact G i hi⟩⟩
/-- the first nn of fs, then fd -/
def own_mix2 (nn : Int32) (fs fd : Nat → Int32) : Nat → Int32 := fun i => if i < nn.toNatClampNeg then fs i else fd i
theorem own_mix2_lo {nn : Int32} {fs fd : Nat → Int32} {i : Nat} (h : i < nn.toNatClampNeg) : own_mix2 nn fs fd i = fs i := if_pos h
theorem own_mix2_hi {nn : Int32} {fs fd : Nat → Int32} {i : Nat} (h : ¬ i < nn.toNatClampNeg) : own_mix2 nn fs fd i = fd i := if_neg h
section OwnCp
variable {p : Program} {l : Launch} {e : Env} {R : Room} {s : State} {m : MethodId} {args : Array Value} {below : List Frame} {meth : Method} {c : Code} {T : State} {locs : List Loc} {cells slots : Nat} {Z : State} {h : Heap}
theorem own_cp (X : Stand p l e R s m args below meth c T locs cells slots) (hx : p.tables.exec = Jvm.exec) (hZ : Z.Warmed39 s.vm) {a0 : Array Value} {own : String} {index : Nat} (hown : s.vm.findClass own = some m.cls)
    (w1 : (Cond.methodLink own index Jvm.Stand.acN).before a0 Z = true) (w2 : (Cond.native Jvm.Stand.acN).before a0 Z = true) (w3 : (Cond.static Jvm.Stand.acN).before a0 Z = true) (w4 : (Cond.initialized "java/lang/System").before a0 Z = true) (eT : T.heap = h)
    {a b : Addr} {z z' nn : Int32} {fs fd : Nat → Int32} (A : own_A Z h a .byte z fs) (B : own_A Z h b .byte z' fd) (h3 : ¬ nn < 0) (h4 : nn.toNatClampNeg ≤ z.toNatClampNeg) (h5 : nn.toNatClampNeg ≤ z'.toNatClampNeg) {n0 : Nat} (N : Fr n0 locs) (ge : n0 ≤ b)
    {g : JFrame} (hg : g.method = m) (hsize : g.locals.size = c.maxLocals) {rest : List Value} (hs : g.stack = .int nn :: .int 0 :: .ref b :: .int 0 :: .ref a :: rest) (hd : decode c.code g.pc = .ok (.invokestatic index, 3))
    (hf : 1 ≤ R.frames) {W : Nat} (hW : 2 * g.monitorRoom + (rest.map fun v => v.category).sum ≤ W) (hlo : W + (nativeFrameWords "java/lang/System" "arraycopy" 5 + 11) ≤ R.locals) :
    ∃ T' h' L, Stand p l e R s m args below meth c T' L cells slots ∧ T'.heap = h' ∧ Fr n0 L ∧ Keep h h' [b] ∧ own_A Z h' b .byte z' (own_mix2 nn fs fd) ∧
      ∀ target, Steps p.tables e below (T'.setTop { g with pc := g.pc + 3, stack := rest }) target → Steps p.tables e below (T.setTop g) target := by
  obtain ⟨k, A'⟩ := A.arv
  obtain ⟨k', B'⟩ := B.arv
  obtain ⟨T', h', L, X', e', N', K', V', st⟩ := cpA X hx hZ hown w1 w2 w3 w4 eT A' B' (sp := 0) (dp := 0) (nn := nn) (us := _) (Or.inl ⟨rfl, rfl⟩) (by decide) (by decide) h3 (by rw [own_z0]; omega) (by rw [own_z0]; omega) rfl (by rw [own_z0, List.length_map, List.length_range]; omega) N ge hg hsize hs hd hf hW hlo
  refine ⟨T', h', L, X', e', N', K', own_A.of_arv V' fun i hi => ?_, st⟩
  rw [own_z0, List.take_zero, List.nil_append, Nat.zero_add, List.getD_eq_getElem?_getD]
  by_cases q : i < nn.toNatClampNeg
  · rw [own_mix2_lo q, List.getElem?_append_left (by rw [List.length_map, List.length_range]; exact q)]
    have hz : i < z.toNatClampNeg := by omega
    simp [q, hz]
  · rw [own_mix2_hi q, List.getElem?_append_right (by rw [List.length_map, List.length_range]; omega), List.length_map, List.length_range, List.getElem?_drop, show nn.toNatClampNeg + (i - nn.toNatClampNeg) = i by omega]
    simp [hi]
end OwnCp
theorem own_nn {x y : Int32} (hx : ¬ x < 0) (hy : ¬ y < 0) (h : ¬ x = y) : ¬ x.toNatClampNeg = y.toNatClampNeg := fun q => h (Int32.toInt_inj.mp (by rw [nat_of hx, nat_of hy, q]))
theorem own_n0 {x : Int32} (h : 0 ≤ x.toInt) : ¬ x < 0 := by
  rw [Int32.lt_iff_toInt_lt]
  have e : (0 : Int32).toInt = 0 := by decide
  omega
theorem own_lt {x y : Int32} (h : x.toInt < y.toInt) : x < y := Int32.lt_iff_toInt_lt.mpr h
theorem own_nlt {x y : Int32} (h : y.toInt ≤ x.toInt) : ¬ x < y := by rw [Int32.lt_iff_toInt_lt]; omega
theorem own_ne {x y : Int32} (h : x.toInt ≠ y.toInt) : ¬ x = y := fun q => h (by rw [q])
theorem own_cap {x : Int32} {k : Nat} (h0 : 0 ≤ x.toInt) (h : x.toInt ≤ k) : x.toNatClampNeg ≤ k := by
  have := nat_of (own_n0 h0)
  omega
theorem own_natle {x y : Int32} (h0 : 0 ≤ x.toInt) (h : x.toInt ≤ y.toInt) : x.toNatClampNeg ≤ y.toNatClampNeg := by
  have h1 := nat_of (own_n0 h0)
  have h2 := nat_of (own_n0 (x := y) (by omega))
  omega
theorem own_add {x k : Int32} (h : 0 ≤ x.toInt) (h' : x.toInt ≤ 100) (hk : -1 ≤ k.toInt) (hk' : k.toInt ≤ 100) : (x + k).toInt = x.toInt + k.toInt := XT.add32 ⟨by omega, by omega⟩
theorem own_m1lt {x : Int32} (h : 1 ≤ x.toInt) (h' : x.toInt ≤ 100) : x + (-1 : Int32) < x := by
  have e : (-1 : Int32).toInt = -1 := by decide
  have q : (x + (-1 : Int32)).toInt = x.toInt + (-1 : Int32).toInt := XT.add32 ⟨by rw [e]; omega, by rw [e]; omega⟩
  rw [Int32.lt_iff_toInt_lt, q, e]
  clear q e
  omega
theorem own_l3 (p : Int32) : 0 ≤ (p &&& 3).toInt ∧ (p &&& 3).toInt ≤ 3 := by
  have h := c_mask p 3 2 (by decide) (by decide)
  omega
theorem own_11 (x : Int32) : x + (1 : Int32) + (10 : Int32) = x + (11 : Int32) := by rw [Int32.add_assoc, show (1 : Int32) + 10 = 11 by decide]
theorem own_s1 (x : Int32) : x + (1 : Int32) - (1 : Int32) = x := by rw [Int32.sub_eq_add_neg, Int32.add_assoc, show (1 : Int32) + -1 = 0 by decide, Int32.add_zero]
theorem own_s2 (x : Int32) : x + (2 : Int32) - (1 : Int32) = x + (1 : Int32) := by rw [Int32.sub_eq_add_neg, Int32.add_assoc, show (2 : Int32) + -1 = 1 by decide]
theorem own_s3 (x : Int32) : x + (1 : Int32) + (-1 : Int32) = x := by rw [Int32.add_assoc, show (1 : Int32) + -1 = 0 by decide, Int32.add_zero]
theorem own_s4 (x : Int32) : x + (1 : Int32) + (1 : Int32) = x + (2 : Int32) := by rw [Int32.add_assoc, show (1 : Int32) + 1 = 2 by decide]
theorem own_remr {x y : Int32} (hx : 0 ≤ x.toInt) (hy : 0 < y.toInt) : 0 ≤ (x % y).toInt ∧ (x % y).toInt < y.toInt := ⟨((c_iremV x y).1 hx hy).1, ((c_iremV x y).1 hx hy).2.1⟩
theorem own_nu (p : Int32) : 0 ≤ ((p.toUInt32 >>> ((11 : Int32) &&& 31).toUInt32).toInt32).toInt := by
  have h := c_iushr p 11 11 (by decide) (by decide)
  omega
theorem own_div10 {x : Int32} (h : 0 ≤ x.toInt) : (x / (10 : Int32)).toInt = x.toInt / 10 := (c_idiv x 10 10 (by decide) (by decide)).1 h
theorem own_rem10 {x : Int32} (h : 0 ≤ x.toInt) (h' : x.toInt < 10) : x % (10 : Int32) = x := Int32.toInt_inj.mp (by
  rw [(c_irem x 10 10 (by decide)).1 h]; omega)
theorem own_narb (x : Int32) : nar .byte x.toInt8.toInt32 = x.toInt8.toInt32 := Value.int.inj (XT.narrow_b x)
theorem own_k {p k k1 : Int32} (hk : k1.toInt = k.toInt + 1) (h0 : 0 ≤ k.toInt) (h : ¬ p < k1) : k.toInt < p.toInt ∧ k < p ∧ k.toNatClampNeg < p.toNatClampNeg := by
  rw [Int32.lt_iff_toInt_lt] at h
  have e : k.toInt < p.toInt := by omega
  have a := nat_of (own_n0 h0)
  have b := nat_of (own_n0 (x := p) (by omega))
  exact ⟨e, own_lt e, by omega⟩
def Q1 (Z : State) (p1 : Int32) (h0 : Heap) (n0 : Nat) (v : Option Value) (h : Heap) (L : List Loc) : Prop := ∃ (a : Addr) (f : Nat → Int32), v = some (.ref a) ∧ Fr n0 L ∧ Keep h0 h [] ∧ h0.size ≤ a ∧ own_A Z h a .byte p1 f
theorem d1_0 : decode method_2_code 0 = .ok (.iload_n 0, 1) := by decide +kernel
theorem d1_1 : decode method_2_code 1 = .ok (.newarray .byte, 2) := by decide +kernel
theorem d1_3 : decode method_2_code 3 = .ok (.astore_n 2, 1) := by decide +kernel
theorem d1_4 : decode method_2_code 4 = .ok (.iload_n 0, 1) := by decide +kernel
theorem d1_5 : decode method_2_code 5 = .ok (.ifCond .le 8, 3) := by decide +kernel
theorem d1_8 : decode method_2_code 8 = .ok (.aload_n 2, 1) := by decide +kernel
theorem d1_9 : decode method_2_code 9 = .ok (.iconst 0, 1) := by decide +kernel
theorem d1_10 : decode method_2_code 10 = .ok (.iload_n 1, 1) := by decide +kernel
theorem d1_11 : decode method_2_code 11 = .ok (.i2b, 1) := by decide +kernel
theorem d1_12 : decode method_2_code 12 = .ok (.bastore, 1) := by decide +kernel
theorem d1_13 : decode method_2_code 13 = .ok (.iload_n 0, 1) := by decide +kernel
theorem d1_14 : decode method_2_code 14 = .ok (.iconst 1, 1) := by decide +kernel
theorem d1_15 : decode method_2_code 15 = .ok (.if_icmp .le 11, 3) := by decide +kernel
theorem d1_18 : decode method_2_code 18 = .ok (.aload_n 2, 1) := by decide +kernel
theorem d1_19 : decode method_2_code 19 = .ok (.iconst 1, 1) := by decide +kernel
theorem d1_20 : decode method_2_code 20 = .ok (.iload_n 1, 1) := by decide +kernel
theorem d1_21 : decode method_2_code 21 = .ok (.bipush 8, 2) := by decide +kernel
theorem d1_23 : decode method_2_code 23 = .ok (.ishr, 1) := by decide +kernel
theorem d1_24 : decode method_2_code 24 = .ok (.i2b, 1) := by decide +kernel
theorem d1_25 : decode method_2_code 25 = .ok (.bastore, 1) := by decide +kernel
theorem d1_26 : decode method_2_code 26 = .ok (.iload_n 0, 1) := by decide +kernel
theorem d1_27 : decode method_2_code 27 = .ok (.iconst 2, 1) := by decide +kernel
theorem d1_28 : decode method_2_code 28 = .ok (.if_icmp .le 11, 3) := by decide +kernel
theorem d1_31 : decode method_2_code 31 = .ok (.aload_n 2, 1) := by decide +kernel
theorem d1_32 : decode method_2_code 32 = .ok (.iconst 2, 1) := by decide +kernel
theorem d1_33 : decode method_2_code 33 = .ok (.iload_n 1, 1) := by decide +kernel
theorem d1_34 : decode method_2_code 34 = .ok (.bipush 16, 2) := by decide +kernel
theorem d1_36 : decode method_2_code 36 = .ok (.ishr, 1) := by decide +kernel
theorem d1_37 : decode method_2_code 37 = .ok (.i2b, 1) := by decide +kernel
theorem d1_38 : decode method_2_code 38 = .ok (.bastore, 1) := by decide +kernel
theorem d1_39 : decode method_2_code 39 = .ok (.aload_n 2, 1) := by decide +kernel
theorem d1_40 : decode method_2_code 40 = .ok (.areturn, 1) := by decide +kernel
theorem pn_1 : plainName "com/example/gyre/gyre/NodeLabelStartNodePinLaw" = true := by first | (simp [plainName, overriddenIn]; done) | decide +kernel
theorem ef_1 (m : MethodId) (x0 : Int32) (x1 : Int32) : entryFrame m #[(.int x0), (.int x1)] 3 = mkF m 0 #[.val (.int x0), .val (.int x1), .unset] [] := by first | (simp [entryFrame, mkF, argsToLocals, Value.category]; done) | rfl
set_option maxRecDepth 65536 in
set_option maxHeartbeats 40000000 in
theorem rm1 (l : Launch) (Z : State) (a0 : Array Value) (hw : ∀ d ∈ tables_1, d.before a0 Z = true) (ws : List Jvm.Cond) (p1 p2 : Int32) (h0 : Heap) (n0 : Nat) (Z0 : n0 ≤ h0.size) (z0 : ¬ p1 < 0) (z3 : p1.toNatClampNeg ≤ 3) :
    MetFree l (⟨"com/example/gyre/gyre/NodeLabelStartNodePinLaw", "mk", "(II)[B"⟩ : MethodName) (head1 (Jvm.Cond.code (⟨"com/example/gyre/gyre/NodeLabelStartNodePinLaw", "mk", "(II)[B"⟩ : MethodName) method_2_code 3 (some (.array .byte)) :: ws) ({ frames := 0, cells := 1, slots := 3, locals := 0 } : Room)) (fun a U => a = #[(.int p1), (.int p2)] ∧ Z.Warmed39 U.vm ∧ U.heap = h0) (fun _ _ _ _ _ => True) (fun _ U o U' => ∃ v L, o = .returned v ∧ Q1 Z p1 h0 n0 v U'.heap L ∧ FrameEnd U o U' L ({ frames := 0, cells := 1, slots := 3, locals := 0 } : Room).cells ({ frames := 0, cells := 1, slots := 3, locals := 0 } : Room).slots) := by
  refine MetFree.of_bodySF (plainFor_of_name pn_1) hisR ?_
  intro p e s m args below meth c s₁ Bd hml0 hP hK
  obtain ⟨rfl, hZ, hh⟩ := hP
  have hx := Bd.exec
  have hby := Bd.bytes
  have hml : c.maxLocals = 3 := hml0
  have hown : s.vm.findClass "com/example/gyre/gyre/NodeLabelStartNodePinLaw" = some m.cls := findClass_of_methodNamed Bd.named
  have hnm := (name_of_methodNamed Bd.named Bd.method).1
  have X0 : Stand p l e ({ frames := 0, cells := 1, slots := 3, locals := 0 } : Room) s m #[(.int p1), (.int p2)] below meth c s₁ [] 0 0 := Stand.of_body Bd
  have e0 : s₁.heap = h0 := by rw [← hh, Bd.state]; rfl
  have N0 := Fr.nil n0
  have pre0 : own_Go p e below (s₁.setTop (entryFrame m #[(.int p1), (.int p2)] 3)) (s₁.setTop (mkF m 0 #[.val (.int p1), .val (.int p2), .unset] [])) := fun t k => castTop (ef_1 m p1 p2) k
  have pre1 : own_Go p e below (s₁.setTop (entryFrame m #[(.int p1), (.int p2)] 3)) (s₁.setTop (mkF m 1 #[.val (.int p1), .val (.int p2), .unset] [(.int p1)])) := fun t k => pre0 t (by
      show Steps p.tables e below (s₁.setTop (mkF m 0 #[.val (.int p1), .val (.int p2), .unset] [])) _
      refine XS.iloadN X0.here hx rfl (hb hby d1_0) rfl ?_
      exact k)
  obtain ⟨T2, h2, k2, X2, e2, E2, A2, st2⟩ := newP X0 hx hZ (hw _ (List.mem_of_getElem? (i := 4) rfl)) e0 (g := (mkF m 1 #[.val (.int p1), .val (.int p2), .unset] [(.int p1)])) rfl (hb hby d1_1) rfl z0 (cap := 3) z3 (by decide) (by decide) (by decide)
  obtain ⟨b2, g2⟩ : ∃ z, z = h0.size := ⟨_, rfl⟩
  rw [← g2] at A2 st2
  have V2 := own_A.new A2 z0 rfl rfl
  have pre3 : own_Go p e below (s₁.setTop (entryFrame m #[(.int p1), (.int p2)] 3)) (T2.setTop (mkF m 3 #[.val (.int p1), .val (.int p2), .unset] [(.ref b2)])) := fun t k => pre1 t (st2 t k)
  have K_4 := (Keep.refl h0 []).ext E2
  have sz_b2 : h0.size ≤ b2 := Nat.le_trans (Keep.refl h0 []).1 (Nat.le_of_eq g2.symm)
  have g_b2 : n0 ≤ b2 := Nat.le_trans Z0 sz_b2
  have pre5 : own_Go p e below (s₁.setTop (entryFrame m #[(.int p1), (.int p2)] 3)) (T2.setTop (mkF m 5 #[.val (.int p1), .val (.int p2), .val (.ref b2)] [(.int p1)])) := fun t k => pre3 t (by
      show Steps p.tables e below (T2.setTop (mkF m 3 #[.val (.int p1), .val (.int p2), .unset] [(.ref b2)])) _
      refine XS.astoreN X2.here hx rfl (hb hby d1_3) rfl rfl (l' := #[.val (.int p1), .val (.int p2), .val (.ref b2)]) rfl ?_
      show Steps p.tables e below (T2.setTop (mkF m 4 #[.val (.int p1), .val (.int p2), .val (.ref b2)] [])) _
      refine XS.iloadN X2.here hx rfl (hb hby d1_4) rfl ?_
      exact k)
  by_cases c5_6 : (0 : Int32) < p1
  · skip
    have pre7 : own_Go p e below (s₁.setTop (entryFrame m #[(.int p1), (.int p2)] 3)) (T2.setTop (mkF m 12 #[.val (.int p1), .val (.int p2), .val (.ref b2)] [(.int (p2.toInt8.toInt32)), (.int (0 : Int32)), (.ref b2)])) := fun t k => pre5 t (by
        show Steps p.tables e below (T2.setTop (mkF m 5 #[.val (.int p1), .val (.int p2), .val (.ref b2)] [(.int p1)])) _
        refine XS.ifNo X2.here hx rfl (hb hby d1_5) rfl (XT.i0_le_f c5_6) ?_
        show Steps p.tables e below (T2.setTop (mkF m 8 #[.val (.int p1), .val (.int p2), .val (.ref b2)] [])) _
        refine XS.aloadN X2.here hx rfl (hb hby d1_8) rfl rfl ?_
        show Steps p.tables e below (T2.setTop (mkF m 9 #[.val (.int p1), .val (.int p2), .val (.ref b2)] [(.ref b2)])) _
        refine XS.iconst X2.here hx rfl (hb hby d1_9) ?_
        show Steps p.tables e below (T2.setTop (mkF m 10 #[.val (.int p1), .val (.int p2), .val (.ref b2)] [(.int (0 : Int32)), (.ref b2)])) _
        refine XS.iloadN X2.here hx rfl (hb hby d1_10) rfl ?_
        show Steps p.tables e below (T2.setTop (mkF m 11 #[.val (.int p1), .val (.int p2), .val (.ref b2)] [(.int p2), (.int (0 : Int32)), (.ref b2)])) _
        refine XT.i2b X2.here hx rfl (hb hby d1_11) rfl ?_
        exact k)
    obtain ⟨cl8, Ar8, hin8, -⟩ := own_A.at V2 (j := (0 : Int32)) (by decide) c5_6
    obtain ⟨T8, h8, X8, e8, W8, st8⟩ := stB X2 hx hZ e2 Ar8 (j := (0 : Int32)) hin8 (g := (mkF m 12 #[.val (.int p1), .val (.int p2), .val (.ref b2)] [(.int (p2.toInt8.toInt32)), (.int (0 : Int32)), (.ref b2)])) rfl rfl (hb hby d1_12)
    have N8 := Fr.snoc X8 N0 g_b2
    have pre9 : own_Go p e below (s₁.setTop (entryFrame m #[(.int p1), (.int p2)] 3)) (T8.setTop (mkF m 13 #[.val (.int p1), .val (.int p2), .val (.ref b2)] [])) := fun t k => pre7 t (st8 t k)
    have V_10 := own_A.set V2 W8 (fits_nar_byte _)
    have K_11 := K_4.wr W8 (Or.inr sz_b2)
    have pre12 : own_Go p e below (s₁.setTop (entryFrame m #[(.int p1), (.int p2)] 3)) (T8.setTop (mkF m 15 #[.val (.int p1), .val (.int p2), .val (.ref b2)] [(.int (1 : Int32)), (.int p1)])) := fun t k => pre9 t (by
        show Steps p.tables e below (T8.setTop (mkF m 13 #[.val (.int p1), .val (.int p2), .val (.ref b2)] [])) _
        refine XS.iloadN X8.here hx rfl (hb hby d1_13) rfl ?_
        show Steps p.tables e below (T8.setTop (mkF m 14 #[.val (.int p1), .val (.int p2), .val (.ref b2)] [(.int p1)])) _
        refine XS.iconst X8.here hx rfl (hb hby d1_14) ?_
        exact k)
    by_cases c15_13 : (1 : Int32) < p1
    · skip
      have pre14 : own_Go p e below (s₁.setTop (entryFrame m #[(.int p1), (.int p2)] 3)) (T8.setTop (mkF m 25 #[.val (.int p1), .val (.int p2), .val (.ref b2)] [(.int ((p2 >>> ((8 : Int32) &&& 31)).toInt8.toInt32)), (.int (1 : Int32)), (.ref b2)])) := fun t k => pre12 t (by
          show Steps p.tables e below (T8.setTop (mkF m 15 #[.val (.int p1), .val (.int p2), .val (.ref b2)] [(.int (1 : Int32)), (.int p1)])) _
          refine XS.icmpNo X8.here hx rfl (hb hby d1_15) rfl (XT.ii_le_f c15_13) ?_
          show Steps p.tables e below (T8.setTop (mkF m 18 #[.val (.int p1), .val (.int p2), .val (.ref b2)] [])) _
          refine XS.aloadN X8.here hx rfl (hb hby d1_18) rfl rfl ?_
          show Steps p.tables e below (T8.setTop (mkF m 19 #[.val (.int p1), .val (.int p2), .val (.ref b2)] [(.ref b2)])) _
          refine XS.iconst X8.here hx rfl (hb hby d1_19) ?_
          show Steps p.tables e below (T8.setTop (mkF m 20 #[.val (.int p1), .val (.int p2), .val (.ref b2)] [(.int (1 : Int32)), (.ref b2)])) _
          refine XS.iloadN X8.here hx rfl (hb hby d1_20) rfl ?_
          show Steps p.tables e below (T8.setTop (mkF m 21 #[.val (.int p1), .val (.int p2), .val (.ref b2)] [(.int p2), (.int (1 : Int32)), (.ref b2)])) _
          refine XS.bipush X8.here hx rfl (hb hby d1_21) ?_
          show Steps p.tables e below (T8.setTop (mkF m 23 #[.val (.int p1), .val (.int p2), .val (.ref b2)] [(.int (8 : Int32)), (.int p2), (.int (1 : Int32)), (.ref b2)])) _
          refine XT.ishr X8.here hx rfl (hb hby d1_23) rfl ?_
          show Steps p.tables e below (T8.setTop (mkF m 24 #[.val (.int p1), .val (.int p2), .val (.ref b2)] [(.int (p2 >>> ((8 : Int32) &&& 31))), (.int (1 : Int32)), (.ref b2)])) _
          refine XT.i2b X8.here hx rfl (hb hby d1_24) rfl ?_
          exact k)
      obtain ⟨cl15, Ar15, hin15, -⟩ := own_A.at V_10 (j := (1 : Int32)) (by decide) c15_13
      obtain ⟨T15, h15, X15, e15, W15, st15⟩ := stB X8 hx hZ e8 Ar15 (j := (1 : Int32)) hin15 (g := (mkF m 25 #[.val (.int p1), .val (.int p2), .val (.ref b2)] [(.int ((p2 >>> ((8 : Int32) &&& 31)).toInt8.toInt32)), (.int (1 : Int32)), (.ref b2)])) rfl rfl (hb hby d1_25)
      have N15 := Fr.snoc X15 N8 g_b2
      have pre16 : own_Go p e below (s₁.setTop (entryFrame m #[(.int p1), (.int p2)] 3)) (T15.setTop (mkF m 26 #[.val (.int p1), .val (.int p2), .val (.ref b2)] [])) := fun t k => pre14 t (st15 t k)
      have V_17 := own_A.set V_10 W15 (fits_nar_byte _)
      have K_18 := K_11.wr W15 (Or.inr sz_b2)
      have pre19 : own_Go p e below (s₁.setTop (entryFrame m #[(.int p1), (.int p2)] 3)) (T15.setTop (mkF m 28 #[.val (.int p1), .val (.int p2), .val (.ref b2)] [(.int (2 : Int32)), (.int p1)])) := fun t k => pre16 t (by
          show Steps p.tables e below (T15.setTop (mkF m 26 #[.val (.int p1), .val (.int p2), .val (.ref b2)] [])) _
          refine XS.iloadN X15.here hx rfl (hb hby d1_26) rfl ?_
          show Steps p.tables e below (T15.setTop (mkF m 27 #[.val (.int p1), .val (.int p2), .val (.ref b2)] [(.int p1)])) _
          refine XS.iconst X15.here hx rfl (hb hby d1_27) ?_
          exact k)
      by_cases c28_20 : (2 : Int32) < p1
      · skip
        have pre21 : own_Go p e below (s₁.setTop (entryFrame m #[(.int p1), (.int p2)] 3)) (T15.setTop (mkF m 38 #[.val (.int p1), .val (.int p2), .val (.ref b2)] [(.int ((p2 >>> ((16 : Int32) &&& 31)).toInt8.toInt32)), (.int (2 : Int32)), (.ref b2)])) := fun t k => pre19 t (by
            show Steps p.tables e below (T15.setTop (mkF m 28 #[.val (.int p1), .val (.int p2), .val (.ref b2)] [(.int (2 : Int32)), (.int p1)])) _
            refine XS.icmpNo X15.here hx rfl (hb hby d1_28) rfl (XT.ii_le_f c28_20) ?_
            show Steps p.tables e below (T15.setTop (mkF m 31 #[.val (.int p1), .val (.int p2), .val (.ref b2)] [])) _
            refine XS.aloadN X15.here hx rfl (hb hby d1_31) rfl rfl ?_
            show Steps p.tables e below (T15.setTop (mkF m 32 #[.val (.int p1), .val (.int p2), .val (.ref b2)] [(.ref b2)])) _
            refine XS.iconst X15.here hx rfl (hb hby d1_32) ?_
            show Steps p.tables e below (T15.setTop (mkF m 33 #[.val (.int p1), .val (.int p2), .val (.ref b2)] [(.int (2 : Int32)), (.ref b2)])) _
            refine XS.iloadN X15.here hx rfl (hb hby d1_33) rfl ?_
            show Steps p.tables e below (T15.setTop (mkF m 34 #[.val (.int p1), .val (.int p2), .val (.ref b2)] [(.int p2), (.int (2 : Int32)), (.ref b2)])) _
            refine XS.bipush X15.here hx rfl (hb hby d1_34) ?_
            show Steps p.tables e below (T15.setTop (mkF m 36 #[.val (.int p1), .val (.int p2), .val (.ref b2)] [(.int (16 : Int32)), (.int p2), (.int (2 : Int32)), (.ref b2)])) _
            refine XT.ishr X15.here hx rfl (hb hby d1_36) rfl ?_
            show Steps p.tables e below (T15.setTop (mkF m 37 #[.val (.int p1), .val (.int p2), .val (.ref b2)] [(.int (p2 >>> ((16 : Int32) &&& 31))), (.int (2 : Int32)), (.ref b2)])) _
            refine XT.i2b X15.here hx rfl (hb hby d1_37) rfl ?_
            exact k)
        obtain ⟨cl22, Ar22, hin22, -⟩ := own_A.at V_17 (j := (2 : Int32)) (by decide) c28_20
        obtain ⟨T22, h22, X22, e22, W22, st22⟩ := stB X15 hx hZ e15 Ar22 (j := (2 : Int32)) hin22 (g := (mkF m 38 #[.val (.int p1), .val (.int p2), .val (.ref b2)] [(.int ((p2 >>> ((16 : Int32) &&& 31)).toInt8.toInt32)), (.int (2 : Int32)), (.ref b2)])) rfl rfl (hb hby d1_38)
        have N22 := Fr.snoc X22 N15 g_b2
        have pre23 : own_Go p e below (s₁.setTop (entryFrame m #[(.int p1), (.int p2)] 3)) (T22.setTop (mkF m 39 #[.val (.int p1), .val (.int p2), .val (.ref b2)] [])) := fun t k => pre21 t (st22 t k)
        have V_24 := own_A.set V_17 W22 (fits_nar_byte _)
        have K_25 := K_18.wr W22 (Or.inr sz_b2)
        have pre26 : own_Go p e below (s₁.setTop (entryFrame m #[(.int p1), (.int p2)] 3)) (T22.setTop (mkF m 40 #[.val (.int p1), .val (.int p2), .val (.ref b2)] [(.ref b2)])) := fun t k => pre23 t (by
            show Steps p.tables e below (T22.setTop (mkF m 39 #[.val (.int p1), .val (.int p2), .val (.ref b2)] [])) _
            refine XS.aloadN X22.here hx rfl (hb hby d1_39) rfl rfl ?_
            exact k)
        obtain ⟨fs, hr, hrun, hended, hW, hsame⟩ := X22.leave (v := some (.ref b2)) (fun h => by rw [Bd.returns] at h; cases h)
        refine ⟨_, _, pre26 _ ?_, hrun, hended, _, _, rfl, ?_, ⟨_, rfl⟩, hW, hsame.mono (by decide) (by decide)⟩
        · show Steps p.tables e below (T22.setTop (mkF m 40 #[.val (.int p1), .val (.int p2), .val (.ref b2)] [(.ref b2)])) _
          jvm_step X22.here [X22.here.top, hx, (hb hby d1_40), X22.method', Bd.returns, Value.isRef, FieldType.isReference]
          first | (intro acts; rw [hr _ acts rfl rfl rfl]) | rw [hr _ _ rfl rfl rfl]
          exact Steps.refl _
        · show Q1 Z p1 h0 n0 _ T22.heap _
          rw [e22]
          exact ⟨b2, _, rfl, N22, K_25, sz_b2, V_24⟩
      · skip
        have pre27 : own_Go p e below (s₁.setTop (entryFrame m #[(.int p1), (.int p2)] 3)) (T15.setTop (mkF m 40 #[.val (.int p1), .val (.int p2), .val (.ref b2)] [(.ref b2)])) := fun t k => pre19 t (by
            show Steps p.tables e below (T15.setTop (mkF m 28 #[.val (.int p1), .val (.int p2), .val (.ref b2)] [(.int (2 : Int32)), (.int p1)])) _
            refine XS.icmpYes X15.here hx rfl (pc0 := 28) (pc' := 39) rfl (hb hby d1_28) rfl (XT.ii_le_t c28_20) (by decide) (by decide) ?_
            show Steps p.tables e below (T15.setTop (mkF m 39 #[.val (.int p1), .val (.int p2), .val (.ref b2)] [])) _
            refine XS.aloadN X15.here hx rfl (hb hby d1_39) rfl rfl ?_
            exact k)
        obtain ⟨fs, hr, hrun, hended, hW, hsame⟩ := X15.leave (v := some (.ref b2)) (fun h => by rw [Bd.returns] at h; cases h)
        refine ⟨_, _, pre27 _ ?_, hrun, hended, _, _, rfl, ?_, ⟨_, rfl⟩, hW, hsame.mono (by decide) (by decide)⟩
        · show Steps p.tables e below (T15.setTop (mkF m 40 #[.val (.int p1), .val (.int p2), .val (.ref b2)] [(.ref b2)])) _
          jvm_step X15.here [X15.here.top, hx, (hb hby d1_40), X15.method', Bd.returns, Value.isRef, FieldType.isReference]
          first | (intro acts; rw [hr _ acts rfl rfl rfl]) | rw [hr _ _ rfl rfl rfl]
          exact Steps.refl _
        · show Q1 Z p1 h0 n0 _ T15.heap _
          rw [e15]
          exact ⟨b2, _, rfl, N15, K_18, sz_b2, V_17⟩
    · skip
      have pre28 : own_Go p e below (s₁.setTop (entryFrame m #[(.int p1), (.int p2)] 3)) (T8.setTop (mkF m 28 #[.val (.int p1), .val (.int p2), .val (.ref b2)] [(.int (2 : Int32)), (.int p1)])) := fun t k => pre12 t (by
          show Steps p.tables e below (T8.setTop (mkF m 15 #[.val (.int p1), .val (.int p2), .val (.ref b2)] [(.int (1 : Int32)), (.int p1)])) _
          refine XS.icmpYes X8.here hx rfl (pc0 := 15) (pc' := 26) rfl (hb hby d1_15) rfl (XT.ii_le_t c15_13) (by decide) (by decide) ?_
          show Steps p.tables e below (T8.setTop (mkF m 26 #[.val (.int p1), .val (.int p2), .val (.ref b2)] [])) _
          refine XS.iloadN X8.here hx rfl (hb hby d1_26) rfl ?_
          show Steps p.tables e below (T8.setTop (mkF m 27 #[.val (.int p1), .val (.int p2), .val (.ref b2)] [(.int p1)])) _
          refine XS.iconst X8.here hx rfl (hb hby d1_27) ?_
          exact k)
      by_cases c28_29 : (2 : Int32) < p1
      · skip
        have pre30 : own_Go p e below (s₁.setTop (entryFrame m #[(.int p1), (.int p2)] 3)) (T8.setTop (mkF m 38 #[.val (.int p1), .val (.int p2), .val (.ref b2)] [(.int ((p2 >>> ((16 : Int32) &&& 31)).toInt8.toInt32)), (.int (2 : Int32)), (.ref b2)])) := fun t k => pre28 t (by
            show Steps p.tables e below (T8.setTop (mkF m 28 #[.val (.int p1), .val (.int p2), .val (.ref b2)] [(.int (2 : Int32)), (.int p1)])) _
            refine XS.icmpNo X8.here hx rfl (hb hby d1_28) rfl (XT.ii_le_f c28_29) ?_
            show Steps p.tables e below (T8.setTop (mkF m 31 #[.val (.int p1), .val (.int p2), .val (.ref b2)] [])) _
            refine XS.aloadN X8.here hx rfl (hb hby d1_31) rfl rfl ?_
            show Steps p.tables e below (T8.setTop (mkF m 32 #[.val (.int p1), .val (.int p2), .val (.ref b2)] [(.ref b2)])) _
            refine XS.iconst X8.here hx rfl (hb hby d1_32) ?_
            show Steps p.tables e below (T8.setTop (mkF m 33 #[.val (.int p1), .val (.int p2), .val (.ref b2)] [(.int (2 : Int32)), (.ref b2)])) _
            refine XS.iloadN X8.here hx rfl (hb hby d1_33) rfl ?_
            show Steps p.tables e below (T8.setTop (mkF m 34 #[.val (.int p1), .val (.int p2), .val (.ref b2)] [(.int p2), (.int (2 : Int32)), (.ref b2)])) _
            refine XS.bipush X8.here hx rfl (hb hby d1_34) ?_
            show Steps p.tables e below (T8.setTop (mkF m 36 #[.val (.int p1), .val (.int p2), .val (.ref b2)] [(.int (16 : Int32)), (.int p2), (.int (2 : Int32)), (.ref b2)])) _
            refine XT.ishr X8.here hx rfl (hb hby d1_36) rfl ?_
            show Steps p.tables e below (T8.setTop (mkF m 37 #[.val (.int p1), .val (.int p2), .val (.ref b2)] [(.int (p2 >>> ((16 : Int32) &&& 31))), (.int (2 : Int32)), (.ref b2)])) _
            refine XT.i2b X8.here hx rfl (hb hby d1_37) rfl ?_
            exact k)
        obtain ⟨cl31, Ar31, hin31, -⟩ := own_A.at V_10 (j := (2 : Int32)) (by decide) c28_29
        obtain ⟨T31, h31, X31, e31, W31, st31⟩ := stB X8 hx hZ e8 Ar31 (j := (2 : Int32)) hin31 (g := (mkF m 38 #[.val (.int p1), .val (.int p2), .val (.ref b2)] [(.int ((p2 >>> ((16 : Int32) &&& 31)).toInt8.toInt32)), (.int (2 : Int32)), (.ref b2)])) rfl rfl (hb hby d1_38)
        have N31 := Fr.snoc X31 N8 g_b2
        have pre32 : own_Go p e below (s₁.setTop (entryFrame m #[(.int p1), (.int p2)] 3)) (T31.setTop (mkF m 39 #[.val (.int p1), .val (.int p2), .val (.ref b2)] [])) := fun t k => pre30 t (st31 t k)
        have V_33 := own_A.set V_10 W31 (fits_nar_byte _)
        have K_34 := K_11.wr W31 (Or.inr sz_b2)
        have pre35 : own_Go p e below (s₁.setTop (entryFrame m #[(.int p1), (.int p2)] 3)) (T31.setTop (mkF m 40 #[.val (.int p1), .val (.int p2), .val (.ref b2)] [(.ref b2)])) := fun t k => pre32 t (by
            show Steps p.tables e below (T31.setTop (mkF m 39 #[.val (.int p1), .val (.int p2), .val (.ref b2)] [])) _
            refine XS.aloadN X31.here hx rfl (hb hby d1_39) rfl rfl ?_
            exact k)
        obtain ⟨fs, hr, hrun, hended, hW, hsame⟩ := X31.leave (v := some (.ref b2)) (fun h => by rw [Bd.returns] at h; cases h)
        refine ⟨_, _, pre35 _ ?_, hrun, hended, _, _, rfl, ?_, ⟨_, rfl⟩, hW, hsame.mono (by decide) (by decide)⟩
        · show Steps p.tables e below (T31.setTop (mkF m 40 #[.val (.int p1), .val (.int p2), .val (.ref b2)] [(.ref b2)])) _
          jvm_step X31.here [X31.here.top, hx, (hb hby d1_40), X31.method', Bd.returns, Value.isRef, FieldType.isReference]
          first | (intro acts; rw [hr _ acts rfl rfl rfl]) | rw [hr _ _ rfl rfl rfl]
          exact Steps.refl _
        · show Q1 Z p1 h0 n0 _ T31.heap _
          rw [e31]
          exact ⟨b2, _, rfl, N31, K_34, sz_b2, V_33⟩
      · skip
        have pre36 : own_Go p e below (s₁.setTop (entryFrame m #[(.int p1), (.int p2)] 3)) (T8.setTop (mkF m 40 #[.val (.int p1), .val (.int p2), .val (.ref b2)] [(.ref b2)])) := fun t k => pre28 t (by
            show Steps p.tables e below (T8.setTop (mkF m 28 #[.val (.int p1), .val (.int p2), .val (.ref b2)] [(.int (2 : Int32)), (.int p1)])) _
            refine XS.icmpYes X8.here hx rfl (pc0 := 28) (pc' := 39) rfl (hb hby d1_28) rfl (XT.ii_le_t c28_29) (by decide) (by decide) ?_
            show Steps p.tables e below (T8.setTop (mkF m 39 #[.val (.int p1), .val (.int p2), .val (.ref b2)] [])) _
            refine XS.aloadN X8.here hx rfl (hb hby d1_39) rfl rfl ?_
            exact k)
        obtain ⟨fs, hr, hrun, hended, hW, hsame⟩ := X8.leave (v := some (.ref b2)) (fun h => by rw [Bd.returns] at h; cases h)
        refine ⟨_, _, pre36 _ ?_, hrun, hended, _, _, rfl, ?_, ⟨_, rfl⟩, hW, hsame.mono (by decide) (by decide)⟩
        · show Steps p.tables e below (T8.setTop (mkF m 40 #[.val (.int p1), .val (.int p2), .val (.ref b2)] [(.ref b2)])) _
          jvm_step X8.here [X8.here.top, hx, (hb hby d1_40), X8.method', Bd.returns, Value.isRef, FieldType.isReference]
          first | (intro acts; rw [hr _ acts rfl rfl rfl]) | rw [hr _ _ rfl rfl rfl]
          exact Steps.refl _
        · show Q1 Z p1 h0 n0 _ T8.heap _
          rw [e8]
          exact ⟨b2, _, rfl, N8, K_11, sz_b2, V_10⟩
  · skip
    have pre37 : own_Go p e below (s₁.setTop (entryFrame m #[(.int p1), (.int p2)] 3)) (T2.setTop (mkF m 15 #[.val (.int p1), .val (.int p2), .val (.ref b2)] [(.int (1 : Int32)), (.int p1)])) := fun t k => pre5 t (by
        show Steps p.tables e below (T2.setTop (mkF m 5 #[.val (.int p1), .val (.int p2), .val (.ref b2)] [(.int p1)])) _
        refine XS.ifYes X2.here hx rfl (pc0 := 5) (pc' := 13) rfl (hb hby d1_5) rfl (XT.i0_le_t c5_6) (by decide) (by decide) ?_
        show Steps p.tables e below (T2.setTop (mkF m 13 #[.val (.int p1), .val (.int p2), .val (.ref b2)] [])) _
        refine XS.iloadN X2.here hx rfl (hb hby d1_13) rfl ?_
        show Steps p.tables e below (T2.setTop (mkF m 14 #[.val (.int p1), .val (.int p2), .val (.ref b2)] [(.int p1)])) _
        refine XS.iconst X2.here hx rfl (hb hby d1_14) ?_
        exact k)
    by_cases c15_38 : (1 : Int32) < p1
    · skip
      have pre39 : own_Go p e below (s₁.setTop (entryFrame m #[(.int p1), (.int p2)] 3)) (T2.setTop (mkF m 25 #[.val (.int p1), .val (.int p2), .val (.ref b2)] [(.int ((p2 >>> ((8 : Int32) &&& 31)).toInt8.toInt32)), (.int (1 : Int32)), (.ref b2)])) := fun t k => pre37 t (by
          show Steps p.tables e below (T2.setTop (mkF m 15 #[.val (.int p1), .val (.int p2), .val (.ref b2)] [(.int (1 : Int32)), (.int p1)])) _
          refine XS.icmpNo X2.here hx rfl (hb hby d1_15) rfl (XT.ii_le_f c15_38) ?_
          show Steps p.tables e below (T2.setTop (mkF m 18 #[.val (.int p1), .val (.int p2), .val (.ref b2)] [])) _
          refine XS.aloadN X2.here hx rfl (hb hby d1_18) rfl rfl ?_
          show Steps p.tables e below (T2.setTop (mkF m 19 #[.val (.int p1), .val (.int p2), .val (.ref b2)] [(.ref b2)])) _
          refine XS.iconst X2.here hx rfl (hb hby d1_19) ?_
          show Steps p.tables e below (T2.setTop (mkF m 20 #[.val (.int p1), .val (.int p2), .val (.ref b2)] [(.int (1 : Int32)), (.ref b2)])) _
          refine XS.iloadN X2.here hx rfl (hb hby d1_20) rfl ?_
          show Steps p.tables e below (T2.setTop (mkF m 21 #[.val (.int p1), .val (.int p2), .val (.ref b2)] [(.int p2), (.int (1 : Int32)), (.ref b2)])) _
          refine XS.bipush X2.here hx rfl (hb hby d1_21) ?_
          show Steps p.tables e below (T2.setTop (mkF m 23 #[.val (.int p1), .val (.int p2), .val (.ref b2)] [(.int (8 : Int32)), (.int p2), (.int (1 : Int32)), (.ref b2)])) _
          refine XT.ishr X2.here hx rfl (hb hby d1_23) rfl ?_
          show Steps p.tables e below (T2.setTop (mkF m 24 #[.val (.int p1), .val (.int p2), .val (.ref b2)] [(.int (p2 >>> ((8 : Int32) &&& 31))), (.int (1 : Int32)), (.ref b2)])) _
          refine XT.i2b X2.here hx rfl (hb hby d1_24) rfl ?_
          exact k)
      obtain ⟨cl40, Ar40, hin40, -⟩ := own_A.at V2 (j := (1 : Int32)) (by decide) c15_38
      obtain ⟨T40, h40, X40, e40, W40, st40⟩ := stB X2 hx hZ e2 Ar40 (j := (1 : Int32)) hin40 (g := (mkF m 25 #[.val (.int p1), .val (.int p2), .val (.ref b2)] [(.int ((p2 >>> ((8 : Int32) &&& 31)).toInt8.toInt32)), (.int (1 : Int32)), (.ref b2)])) rfl rfl (hb hby d1_25)
      have N40 := Fr.snoc X40 N0 g_b2
      have pre41 : own_Go p e below (s₁.setTop (entryFrame m #[(.int p1), (.int p2)] 3)) (T40.setTop (mkF m 26 #[.val (.int p1), .val (.int p2), .val (.ref b2)] [])) := fun t k => pre39 t (st40 t k)
      have V_42 := own_A.set V2 W40 (fits_nar_byte _)
      have K_43 := K_4.wr W40 (Or.inr sz_b2)
      have pre44 : own_Go p e below (s₁.setTop (entryFrame m #[(.int p1), (.int p2)] 3)) (T40.setTop (mkF m 28 #[.val (.int p1), .val (.int p2), .val (.ref b2)] [(.int (2 : Int32)), (.int p1)])) := fun t k => pre41 t (by
          show Steps p.tables e below (T40.setTop (mkF m 26 #[.val (.int p1), .val (.int p2), .val (.ref b2)] [])) _
          refine XS.iloadN X40.here hx rfl (hb hby d1_26) rfl ?_
          show Steps p.tables e below (T40.setTop (mkF m 27 #[.val (.int p1), .val (.int p2), .val (.ref b2)] [(.int p1)])) _
          refine XS.iconst X40.here hx rfl (hb hby d1_27) ?_
          exact k)
      by_cases c28_45 : (2 : Int32) < p1
      · skip
        have pre46 : own_Go p e below (s₁.setTop (entryFrame m #[(.int p1), (.int p2)] 3)) (T40.setTop (mkF m 38 #[.val (.int p1), .val (.int p2), .val (.ref b2)] [(.int ((p2 >>> ((16 : Int32) &&& 31)).toInt8.toInt32)), (.int (2 : Int32)), (.ref b2)])) := fun t k => pre44 t (by
            show Steps p.tables e below (T40.setTop (mkF m 28 #[.val (.int p1), .val (.int p2), .val (.ref b2)] [(.int (2 : Int32)), (.int p1)])) _
            refine XS.icmpNo X40.here hx rfl (hb hby d1_28) rfl (XT.ii_le_f c28_45) ?_
            show Steps p.tables e below (T40.setTop (mkF m 31 #[.val (.int p1), .val (.int p2), .val (.ref b2)] [])) _
            refine XS.aloadN X40.here hx rfl (hb hby d1_31) rfl rfl ?_
            show Steps p.tables e below (T40.setTop (mkF m 32 #[.val (.int p1), .val (.int p2), .val (.ref b2)] [(.ref b2)])) _
            refine XS.iconst X40.here hx rfl (hb hby d1_32) ?_
            show Steps p.tables e below (T40.setTop (mkF m 33 #[.val (.int p1), .val (.int p2), .val (.ref b2)] [(.int (2 : Int32)), (.ref b2)])) _
            refine XS.iloadN X40.here hx rfl (hb hby d1_33) rfl ?_
            show Steps p.tables e below (T40.setTop (mkF m 34 #[.val (.int p1), .val (.int p2), .val (.ref b2)] [(.int p2), (.int (2 : Int32)), (.ref b2)])) _
            refine XS.bipush X40.here hx rfl (hb hby d1_34) ?_
            show Steps p.tables e below (T40.setTop (mkF m 36 #[.val (.int p1), .val (.int p2), .val (.ref b2)] [(.int (16 : Int32)), (.int p2), (.int (2 : Int32)), (.ref b2)])) _
            refine XT.ishr X40.here hx rfl (hb hby d1_36) rfl ?_
            show Steps p.tables e below (T40.setTop (mkF m 37 #[.val (.int p1), .val (.int p2), .val (.ref b2)] [(.int (p2 >>> ((16 : Int32) &&& 31))), (.int (2 : Int32)), (.ref b2)])) _
            refine XT.i2b X40.here hx rfl (hb hby d1_37) rfl ?_
            exact k)
        obtain ⟨cl47, Ar47, hin47, -⟩ := own_A.at V_42 (j := (2 : Int32)) (by decide) c28_45
        obtain ⟨T47, h47, X47, e47, W47, st47⟩ := stB X40 hx hZ e40 Ar47 (j := (2 : Int32)) hin47 (g := (mkF m 38 #[.val (.int p1), .val (.int p2), .val (.ref b2)] [(.int ((p2 >>> ((16 : Int32) &&& 31)).toInt8.toInt32)), (.int (2 : Int32)), (.ref b2)])) rfl rfl (hb hby d1_38)
        have N47 := Fr.snoc X47 N40 g_b2
        have pre48 : own_Go p e below (s₁.setTop (entryFrame m #[(.int p1), (.int p2)] 3)) (T47.setTop (mkF m 39 #[.val (.int p1), .val (.int p2), .val (.ref b2)] [])) := fun t k => pre46 t (st47 t k)
        have V_49 := own_A.set V_42 W47 (fits_nar_byte _)
        have K_50 := K_43.wr W47 (Or.inr sz_b2)
        have pre51 : own_Go p e below (s₁.setTop (entryFrame m #[(.int p1), (.int p2)] 3)) (T47.setTop (mkF m 40 #[.val (.int p1), .val (.int p2), .val (.ref b2)] [(.ref b2)])) := fun t k => pre48 t (by
            show Steps p.tables e below (T47.setTop (mkF m 39 #[.val (.int p1), .val (.int p2), .val (.ref b2)] [])) _
            refine XS.aloadN X47.here hx rfl (hb hby d1_39) rfl rfl ?_
            exact k)
        obtain ⟨fs, hr, hrun, hended, hW, hsame⟩ := X47.leave (v := some (.ref b2)) (fun h => by rw [Bd.returns] at h; cases h)
        refine ⟨_, _, pre51 _ ?_, hrun, hended, _, _, rfl, ?_, ⟨_, rfl⟩, hW, hsame.mono (by decide) (by decide)⟩
        · show Steps p.tables e below (T47.setTop (mkF m 40 #[.val (.int p1), .val (.int p2), .val (.ref b2)] [(.ref b2)])) _
          jvm_step X47.here [X47.here.top, hx, (hb hby d1_40), X47.method', Bd.returns, Value.isRef, FieldType.isReference]
          first | (intro acts; rw [hr _ acts rfl rfl rfl]) | rw [hr _ _ rfl rfl rfl]
          exact Steps.refl _
        · show Q1 Z p1 h0 n0 _ T47.heap _
          rw [e47]
          exact ⟨b2, _, rfl, N47, K_50, sz_b2, V_49⟩
      · skip
        have pre52 : own_Go p e below (s₁.setTop (entryFrame m #[(.int p1), (.int p2)] 3)) (T40.setTop (mkF m 40 #[.val (.int p1), .val (.int p2), .val (.ref b2)] [(.ref b2)])) := fun t k => pre44 t (by
            show Steps p.tables e below (T40.setTop (mkF m 28 #[.val (.int p1), .val (.int p2), .val (.ref b2)] [(.int (2 : Int32)), (.int p1)])) _
            refine XS.icmpYes X40.here hx rfl (pc0 := 28) (pc' := 39) rfl (hb hby d1_28) rfl (XT.ii_le_t c28_45) (by decide) (by decide) ?_
            show Steps p.tables e below (T40.setTop (mkF m 39 #[.val (.int p1), .val (.int p2), .val (.ref b2)] [])) _
            refine XS.aloadN X40.here hx rfl (hb hby d1_39) rfl rfl ?_
            exact k)
        obtain ⟨fs, hr, hrun, hended, hW, hsame⟩ := X40.leave (v := some (.ref b2)) (fun h => by rw [Bd.returns] at h; cases h)
        refine ⟨_, _, pre52 _ ?_, hrun, hended, _, _, rfl, ?_, ⟨_, rfl⟩, hW, hsame.mono (by decide) (by decide)⟩
        · show Steps p.tables e below (T40.setTop (mkF m 40 #[.val (.int p1), .val (.int p2), .val (.ref b2)] [(.ref b2)])) _
          jvm_step X40.here [X40.here.top, hx, (hb hby d1_40), X40.method', Bd.returns, Value.isRef, FieldType.isReference]
          first | (intro acts; rw [hr _ acts rfl rfl rfl]) | rw [hr _ _ rfl rfl rfl]
          exact Steps.refl _
        · show Q1 Z p1 h0 n0 _ T40.heap _
          rw [e40]
          exact ⟨b2, _, rfl, N40, K_43, sz_b2, V_42⟩
    · skip
      have pre53 : own_Go p e below (s₁.setTop (entryFrame m #[(.int p1), (.int p2)] 3)) (T2.setTop (mkF m 28 #[.val (.int p1), .val (.int p2), .val (.ref b2)] [(.int (2 : Int32)), (.int p1)])) := fun t k => pre37 t (by
          show Steps p.tables e below (T2.setTop (mkF m 15 #[.val (.int p1), .val (.int p2), .val (.ref b2)] [(.int (1 : Int32)), (.int p1)])) _
          refine XS.icmpYes X2.here hx rfl (pc0 := 15) (pc' := 26) rfl (hb hby d1_15) rfl (XT.ii_le_t c15_38) (by decide) (by decide) ?_
          show Steps p.tables e below (T2.setTop (mkF m 26 #[.val (.int p1), .val (.int p2), .val (.ref b2)] [])) _
          refine XS.iloadN X2.here hx rfl (hb hby d1_26) rfl ?_
          show Steps p.tables e below (T2.setTop (mkF m 27 #[.val (.int p1), .val (.int p2), .val (.ref b2)] [(.int p1)])) _
          refine XS.iconst X2.here hx rfl (hb hby d1_27) ?_
          exact k)
      by_cases c28_54 : (2 : Int32) < p1
      · skip
        have pre55 : own_Go p e below (s₁.setTop (entryFrame m #[(.int p1), (.int p2)] 3)) (T2.setTop (mkF m 38 #[.val (.int p1), .val (.int p2), .val (.ref b2)] [(.int ((p2 >>> ((16 : Int32) &&& 31)).toInt8.toInt32)), (.int (2 : Int32)), (.ref b2)])) := fun t k => pre53 t (by
            show Steps p.tables e below (T2.setTop (mkF m 28 #[.val (.int p1), .val (.int p2), .val (.ref b2)] [(.int (2 : Int32)), (.int p1)])) _
            refine XS.icmpNo X2.here hx rfl (hb hby d1_28) rfl (XT.ii_le_f c28_54) ?_
            show Steps p.tables e below (T2.setTop (mkF m 31 #[.val (.int p1), .val (.int p2), .val (.ref b2)] [])) _
            refine XS.aloadN X2.here hx rfl (hb hby d1_31) rfl rfl ?_
            show Steps p.tables e below (T2.setTop (mkF m 32 #[.val (.int p1), .val (.int p2), .val (.ref b2)] [(.ref b2)])) _
            refine XS.iconst X2.here hx rfl (hb hby d1_32) ?_
            show Steps p.tables e below (T2.setTop (mkF m 33 #[.val (.int p1), .val (.int p2), .val (.ref b2)] [(.int (2 : Int32)), (.ref b2)])) _
            refine XS.iloadN X2.here hx rfl (hb hby d1_33) rfl ?_
            show Steps p.tables e below (T2.setTop (mkF m 34 #[.val (.int p1), .val (.int p2), .val (.ref b2)] [(.int p2), (.int (2 : Int32)), (.ref b2)])) _
            refine XS.bipush X2.here hx rfl (hb hby d1_34) ?_
            show Steps p.tables e below (T2.setTop (mkF m 36 #[.val (.int p1), .val (.int p2), .val (.ref b2)] [(.int (16 : Int32)), (.int p2), (.int (2 : Int32)), (.ref b2)])) _
            refine XT.ishr X2.here hx rfl (hb hby d1_36) rfl ?_
            show Steps p.tables e below (T2.setTop (mkF m 37 #[.val (.int p1), .val (.int p2), .val (.ref b2)] [(.int (p2 >>> ((16 : Int32) &&& 31))), (.int (2 : Int32)), (.ref b2)])) _
            refine XT.i2b X2.here hx rfl (hb hby d1_37) rfl ?_
            exact k)
        obtain ⟨cl56, Ar56, hin56, -⟩ := own_A.at V2 (j := (2 : Int32)) (by decide) c28_54
        obtain ⟨T56, h56, X56, e56, W56, st56⟩ := stB X2 hx hZ e2 Ar56 (j := (2 : Int32)) hin56 (g := (mkF m 38 #[.val (.int p1), .val (.int p2), .val (.ref b2)] [(.int ((p2 >>> ((16 : Int32) &&& 31)).toInt8.toInt32)), (.int (2 : Int32)), (.ref b2)])) rfl rfl (hb hby d1_38)
        have N56 := Fr.snoc X56 N0 g_b2
        have pre57 : own_Go p e below (s₁.setTop (entryFrame m #[(.int p1), (.int p2)] 3)) (T56.setTop (mkF m 39 #[.val (.int p1), .val (.int p2), .val (.ref b2)] [])) := fun t k => pre55 t (st56 t k)
        have V_58 := own_A.set V2 W56 (fits_nar_byte _)
        have K_59 := K_4.wr W56 (Or.inr sz_b2)
        have pre60 : own_Go p e below (s₁.setTop (entryFrame m #[(.int p1), (.int p2)] 3)) (T56.setTop (mkF m 40 #[.val (.int p1), .val (.int p2), .val (.ref b2)] [(.ref b2)])) := fun t k => pre57 t (by
            show Steps p.tables e below (T56.setTop (mkF m 39 #[.val (.int p1), .val (.int p2), .val (.ref b2)] [])) _
            refine XS.aloadN X56.here hx rfl (hb hby d1_39) rfl rfl ?_
            exact k)
        obtain ⟨fs, hr, hrun, hended, hW, hsame⟩ := X56.leave (v := some (.ref b2)) (fun h => by rw [Bd.returns] at h; cases h)
        refine ⟨_, _, pre60 _ ?_, hrun, hended, _, _, rfl, ?_, ⟨_, rfl⟩, hW, hsame.mono (by decide) (by decide)⟩
        · show Steps p.tables e below (T56.setTop (mkF m 40 #[.val (.int p1), .val (.int p2), .val (.ref b2)] [(.ref b2)])) _
          jvm_step X56.here [X56.here.top, hx, (hb hby d1_40), X56.method', Bd.returns, Value.isRef, FieldType.isReference]
          first | (intro acts; rw [hr _ acts rfl rfl rfl]) | rw [hr _ _ rfl rfl rfl]
          exact Steps.refl _
        · show Q1 Z p1 h0 n0 _ T56.heap _
          rw [e56]
          exact ⟨b2, _, rfl, N56, K_59, sz_b2, V_58⟩
      · skip
        have pre61 : own_Go p e below (s₁.setTop (entryFrame m #[(.int p1), (.int p2)] 3)) (T2.setTop (mkF m 40 #[.val (.int p1), .val (.int p2), .val (.ref b2)] [(.ref b2)])) := fun t k => pre53 t (by
            show Steps p.tables e below (T2.setTop (mkF m 28 #[.val (.int p1), .val (.int p2), .val (.ref b2)] [(.int (2 : Int32)), (.int p1)])) _
            refine XS.icmpYes X2.here hx rfl (pc0 := 28) (pc' := 39) rfl (hb hby d1_28) rfl (XT.ii_le_t c28_54) (by decide) (by decide) ?_
            show Steps p.tables e below (T2.setTop (mkF m 39 #[.val (.int p1), .val (.int p2), .val (.ref b2)] [])) _
            refine XS.aloadN X2.here hx rfl (hb hby d1_39) rfl rfl ?_
            exact k)
        obtain ⟨fs, hr, hrun, hended, hW, hsame⟩ := X2.leave (v := some (.ref b2)) (fun h => by rw [Bd.returns] at h; cases h)
        refine ⟨_, _, pre61 _ ?_, hrun, hended, _, _, rfl, ?_, ⟨_, rfl⟩, hW, hsame.mono (by decide) (by decide)⟩
        · show Steps p.tables e below (T2.setTop (mkF m 40 #[.val (.int p1), .val (.int p2), .val (.ref b2)] [(.ref b2)])) _
          jvm_step X2.here [X2.here.top, hx, (hb hby d1_40), X2.method', Bd.returns, Value.isRef, FieldType.isReference]
          first | (intro acts; rw [hr _ acts rfl rfl rfl]) | rw [hr _ _ rfl rfl rfl]
          exact Steps.refl _
        · show Q1 Z p1 h0 n0 _ T2.heap _
          rw [e2]
          exact ⟨b2, _, rfl, N0, K_4, sz_b2, V2⟩
def Q2 (Z : State) (a1 : Addr) (p2 : Int32) (h0 : Heap) (n0 : Nat) (v : Option Value) (h : Heap) (L : List Loc) : Prop := v = none ∧ Fr n0 L ∧ Keep h0 h [a1] ∧ ∃ ab : Addr, h0.size ≤ ab ∧ Fld Z h a1 "com/example/gyre/gyre/NodeLabel" "bytes" "[B" (.ref ab) ∧ Fld Z h a1 "com/example/gyre/gyre/NodeLabel" "separator" "B" (.int p2.toInt8.toInt32) ∧ Fld Z h a1 "com/example/gyre/gyre/NodeLabel" "numberFrom" "I" (.int (0 : Int32)) ∧ own_A Z h ab .byte (0 : Int32) (fun _ => 0)
theorem d2_0 : decode prog_17_method_1_code 0 = .ok (.aload_n 0, 1) := by decide +kernel
theorem d2_1 : decode prog_17_method_1_code 1 = .ok (.invokespecial 1, 3) := by decide +kernel
theorem d2_4 : decode prog_17_method_1_code 4 = .ok (.aload_n 0, 1) := by decide +kernel
theorem d2_5 : decode prog_17_method_1_code 5 = .ok (.iconst 0, 1) := by decide +kernel
theorem d2_6 : decode prog_17_method_1_code 6 = .ok (.newarray .byte, 2) := by decide +kernel
theorem d2_8 : decode prog_17_method_1_code 8 = .ok (.putfield 7, 3) := by decide +kernel
theorem d2_11 : decode prog_17_method_1_code 11 = .ok (.aload_n 0, 1) := by decide +kernel
theorem d2_12 : decode prog_17_method_1_code 12 = .ok (.iload_n 1, 1) := by decide +kernel
theorem d2_13 : decode prog_17_method_1_code 13 = .ok (.i2b, 1) := by decide +kernel
theorem d2_14 : decode prog_17_method_1_code 14 = .ok (.putfield 13, 3) := by decide +kernel
theorem d2_17 : decode prog_17_method_1_code 17 = .ok (.return_, 1) := by decide +kernel
theorem pn_2 : plainName "com/example/gyre/gyre/NodeLabel" = true := by first | (simp [plainName, overriddenIn]; done) | decide +kernel
theorem ef_2 (m : MethodId) (x0 : Addr) (x1 : Int32) : entryFrame m #[(.ref x0), (.int x1)] 2 = mkF m 0 #[.val (.ref x0), .val (.int x1)] [] := by first | (simp [entryFrame, mkF, argsToLocals, Value.category]; done) | rfl
set_option maxRecDepth 65536 in
set_option maxHeartbeats 40000000 in
theorem rm2 (l : Launch) (Z : State) (a0 : Array Value) (hw : ∀ d ∈ tables_1, d.before a0 Z = true) (ws : List Jvm.Cond) (a1 : Addr) (p2 : Int32) (h0 : Heap) (n0 : Nat) (Z0 : n0 ≤ h0.size) (E1 : Exa Z h0 a1 "com/example/gyre/gyre/NodeLabel") (F_bytes : Fld Z h0 a1 "com/example/gyre/gyre/NodeLabel" "bytes" "[B" .null) (F_separator : Fld Z h0 a1 "com/example/gyre/gyre/NodeLabel" "separator" "B" (.int (0 : Int32))) (F_numberFrom : Fld Z h0 a1 "com/example/gyre/gyre/NodeLabel" "numberFrom" "I" (.int (0 : Int32))) (g1 : n0 ≤ a1) :
    MetFree l (⟨"com/example/gyre/gyre/NodeLabel", "<init>", "(C)V"⟩ : MethodName) (head1 (Jvm.Cond.code (⟨"com/example/gyre/gyre/NodeLabel", "<init>", "(C)V"⟩ : MethodName) prog_17_method_1_code 2 none :: ws) ({ frames := 1, cells := 1, slots := 0, locals := 12 } : Room)) (fun a U => a = #[(.ref a1), (.int p2)] ∧ Z.Warmed39 U.vm ∧ U.heap = h0) (fun _ _ _ _ _ => True) (fun _ U o U' => ∃ v L, o = .returned v ∧ Q2 Z a1 p2 h0 n0 v U'.heap L ∧ FrameEnd U o U' L ({ frames := 1, cells := 1, slots := 0, locals := 12 } : Room).cells ({ frames := 1, cells := 1, slots := 0, locals := 12 } : Room).slots) := by
  refine MetFree.of_bodySF (plainFor_of_name pn_2) hisR ?_
  intro p e s m args below meth c s₁ Bd hml0 hP hK
  obtain ⟨rfl, hZ, hh⟩ := hP
  have hx := Bd.exec
  have hby := Bd.bytes
  have hml : c.maxLocals = 2 := hml0
  have hown : s.vm.findClass "com/example/gyre/gyre/NodeLabel" = some m.cls := findClass_of_methodNamed Bd.named
  have hnm := (name_of_methodNamed Bd.named Bd.method).1
  have X0 : Stand p l e ({ frames := 1, cells := 1, slots := 0, locals := 12 } : Room) s m #[(.ref a1), (.int p2)] below meth c s₁ [] 0 0 := Stand.of_body Bd
  have e0 : s₁.heap = h0 := by rw [← hh, Bd.state]; rfl
  have N0 := Fr.nil n0
  have pre0 : own_Go p e below (s₁.setTop (entryFrame m #[(.ref a1), (.int p2)] 2)) (s₁.setTop (mkF m 0 #[.val (.ref a1), .val (.int p2)] [])) := fun t k => castTop (ef_2 m a1 p2) k
  have pre1 : own_Go p e below (s₁.setTop (entryFrame m #[(.ref a1), (.int p2)] 2)) (s₁.setTop (mkF m 1 #[.val (.ref a1), .val (.int p2)] [(.ref a1)])) := fun t k => pre0 t (by
      show Steps p.tables e below (s₁.setTop (mkF m 0 #[.val (.ref a1), .val (.int p2)] [])) _
      refine XS.aloadN X0.here hx rfl (hb hby d2_0) rfl rfl ?_
      exact k)
  obtain ⟨T2, X2, e2, st2⟩ := initO X0 hx hZ hown (hw _ (List.mem_of_getElem? (i := 11) rfl)) (hw _ (List.mem_of_getElem? (i := 12) rfl)) (hw _ (List.mem_of_getElem? (i := 13) rfl)) e0 (g := (mkF m 1 #[.val (.ref a1), .val (.int p2)] [(.ref a1)])) rfl (by rw [hml]; rfl) rfl (hb hby d2_1) (by decide) (W := 0) (by show 2 * 0 + _ ≤ _; exact Nat.le_of_eq rfl) (by decide)
  have pre3 : own_Go p e below (s₁.setTop (entryFrame m #[(.ref a1), (.int p2)] 2)) (T2.setTop (mkF m 4 #[.val (.ref a1), .val (.int p2)] [])) := fun t k => pre1 t (st2 t k)
  have pre4 : own_Go p e below (s₁.setTop (entryFrame m #[(.ref a1), (.int p2)] 2)) (T2.setTop (mkF m 6 #[.val (.ref a1), .val (.int p2)] [(.int (0 : Int32)), (.ref a1)])) := fun t k => pre3 t (by
      show Steps p.tables e below (T2.setTop (mkF m 4 #[.val (.ref a1), .val (.int p2)] [])) _
      refine XS.aloadN X2.here hx rfl (hb hby d2_4) rfl rfl ?_
      show Steps p.tables e below (T2.setTop (mkF m 5 #[.val (.ref a1), .val (.int p2)] [(.ref a1)])) _
      refine XS.iconst X2.here hx rfl (hb hby d2_5) ?_
      exact k)
  obtain ⟨T5, h5, k5, X5, e5, E5, A5, st5⟩ := newP X2 hx hZ (hw _ (List.mem_of_getElem? (i := 4) rfl)) e2 (g := (mkF m 6 #[.val (.ref a1), .val (.int p2)] [(.int (0 : Int32)), (.ref a1)])) rfl (hb hby d2_6) rfl (by decide) (cap := 0) (by decide) (by decide) (by decide) (by decide)
  obtain ⟨b5, g5⟩ : ∃ z, z = h0.size := ⟨_, rfl⟩
  rw [← g5] at A5 st5
  have V5 := own_A.new A5 (by decide) rfl rfl
  have pre6 : own_Go p e below (s₁.setTop (entryFrame m #[(.ref a1), (.int p2)] 2)) (T5.setTop (mkF m 8 #[.val (.ref a1), .val (.int p2)] [(.ref b5), (.ref a1)])) := fun t k => pre4 t (st5 t k)
  have F_7 := F_bytes.ext E5
  have F_8 := F_separator.ext E5
  have F_9 := F_numberFrom.ext E5
  have Ex_10 := E1.ext E5
  have K_11 := (Keep.refl h0 [a1]).ext E5
  have ne_a1_b5 : a1 ≠ b5 := Nat.ne_of_lt (Nat.lt_of_lt_of_eq E1.lt g5.symm)
  have sz_b5 : h0.size ≤ b5 := Nat.le_trans (Keep.refl h0 [a1]).1 (Nat.le_of_eq g5.symm)
  have g_b5 : n0 ≤ b5 := Nat.le_trans Z0 sz_b5
  obtain ⟨T12, h12, X12, e12, W12, st12⟩ := putF X5 hx hZ hown (host := "") (Or.inl (hw _ (List.mem_of_getElem? (i := 14) rfl))) Via.refl e5 F_7 Ex_10 (Or.inl (hw _ (List.mem_of_getElem? (i := 15) rfl))) (hw _ (List.mem_of_getElem? (i := 6) rfl)) (ty := (.array .byte)) (by decide) rfl rfl (g := (mkF m 8 #[.val (.ref a1), .val (.int p2)] [(.ref b5), (.ref a1)])) rfl rfl (hb hby d2_8)
  have N12 := Fr.snoc X12 N0 g1
  have pre13 : own_Go p e below (s₁.setTop (entryFrame m #[(.ref a1), (.int p2)] 2)) (T12.setTop (mkF m 11 #[.val (.ref a1), .val (.int p2)] [])) := fun t k => pre6 t (st12 t k)
  have F_14 := F_7.same W12
  have F_15 := F_8.other W12 (Or.inr (slot_ne (Or.inr (hw _ (List.mem_of_getElem? (i := 17) rfl))) (Or.inl (hw _ (List.mem_of_getElem? (i := 15) rfl))) (by decide) (t := .byte) (by decide) (t' := (.array .byte)) (by decide)))
  have F_16 := F_9.other W12 (Or.inr (slot_ne (Or.inl (hw _ (List.mem_of_getElem? (i := 28) rfl))) (Or.inl (hw _ (List.mem_of_getElem? (i := 15) rfl))) (by decide) (t := .int) (by decide) (t' := (.array .byte)) (by decide)))
  have Ex_17 := Ex_10.wr W12
  have V_18 := V5.other W12 (Ne.symm ne_a1_b5)
  have K_19 := K_11.wr W12 (Or.inl (List.mem_of_getElem? (i := 0) rfl))
  have pre20 : own_Go p e below (s₁.setTop (entryFrame m #[(.ref a1), (.int p2)] 2)) (T12.setTop (mkF m 14 #[.val (.ref a1), .val (.int p2)] [(.int (p2.toInt8.toInt32)), (.ref a1)])) := fun t k => pre13 t (by
      show Steps p.tables e below (T12.setTop (mkF m 11 #[.val (.ref a1), .val (.int p2)] [])) _
      refine XS.aloadN X12.here hx rfl (hb hby d2_11) rfl rfl ?_
      show Steps p.tables e below (T12.setTop (mkF m 12 #[.val (.ref a1), .val (.int p2)] [(.ref a1)])) _
      refine XS.iloadN X12.here hx rfl (hb hby d2_12) rfl ?_
      show Steps p.tables e below (T12.setTop (mkF m 13 #[.val (.ref a1), .val (.int p2)] [(.int p2), (.ref a1)])) _
      refine XT.i2b X12.here hx rfl (hb hby d2_13) rfl ?_
      exact k)
  obtain ⟨T21, h21, X21, e21, W21, st21⟩ := putFN X12 hx hZ hown (hw _ (List.mem_of_getElem? (i := 16) rfl)) Via.refl e12 F_15 Ex_17 (Or.inr ⟨(hw _ (List.mem_of_getElem? (i := 17) rfl)), rfl, hnm⟩) (hw _ (List.mem_of_getElem? (i := 6) rfl)) (ty := .byte) (v' := (.int p2.toInt8.toInt32)) (by decide) (XT.narrow_b _) (fits_nar_byte _) (g := (mkF m 14 #[.val (.ref a1), .val (.int p2)] [(.int (p2.toInt8.toInt32)), (.ref a1)])) rfl rfl (hb hby d2_14)
  have N21 := Fr.snoc X21 N12 g1
  have pre22 : own_Go p e below (s₁.setTop (entryFrame m #[(.ref a1), (.int p2)] 2)) (T21.setTop (mkF m 17 #[.val (.ref a1), .val (.int p2)] [])) := fun t k => pre20 t (st21 t k)
  have F_23 := F_14.other W21 (Or.inr (slot_ne (Or.inl (hw _ (List.mem_of_getElem? (i := 15) rfl))) (Or.inr (hw _ (List.mem_of_getElem? (i := 17) rfl))) (by decide) (t := (.array .byte)) (by decide) (t' := .byte) (by decide)))
  have F_24 := F_15.same W21
  have F_25 := F_16.other W21 (Or.inr (slot_ne (Or.inl (hw _ (List.mem_of_getElem? (i := 28) rfl))) (Or.inr (hw _ (List.mem_of_getElem? (i := 17) rfl))) (by decide) (t := .int) (by decide) (t' := .byte) (by decide)))
  have Ex_26 := Ex_17.wr W21
  have V_27 := V_18.other W21 (Ne.symm ne_a1_b5)
  have K_28 := K_19.wr W21 (Or.inl (List.mem_of_getElem? (i := 0) rfl))
  obtain ⟨fs, hr, hrun, hended, hW, hsame⟩ := X21.leave (v := none) (fun _ => rfl)
  refine ⟨_, _, pre22 _ ?_, hrun, hended, _, _, rfl, ?_, ⟨_, rfl⟩, hW, hsame.mono (by decide) (by decide)⟩
  · show Steps p.tables e below (T21.setTop (mkF m 17 #[.val (.ref a1), .val (.int p2)] [])) _
    exact X21.returnOut hx Bd.returns (hb hby d2_17) hr
  · show Q2 Z a1 p2 h0 n0 _ T21.heap _
    rw [e21]
    exact ⟨rfl, N21, K_28, b5, sz_b5, F_23, F_24, F_25, V_27⟩
def Q3 (Z : State) (a1 an ab : Addr) (sb len nb : Int32) (fn fb : Nat → Int32) (h0 : Heap) (n0 : Nat) (v : Option Value) (h : Heap) (L : List Loc) : Prop := v = none ∧ Fr n0 L ∧ Keep h0 h [a1, ab] ∧ Fld Z h a1 "com/example/gyre/gyre/NodeLabel" "bytes" "[B" (.ref ab) ∧ Fld Z h a1 "com/example/gyre/gyre/NodeLabel" "separator" "B" (.int sb) ∧ Fld Z h a1 "com/example/gyre/gyre/NodeLabel" "numberFrom" "I" (.int (len + (1 : Int32))) ∧ own_A Z h ab .byte nb (own_upd (own_mix2 len fn fb) len.toNatClampNeg sb)
theorem d3_0 : decode prog_17_method_2_code 0 = .ok (.aload_n 1, 1) := by decide +kernel
theorem d3_1 : decode prog_17_method_2_code 1 = .ok (.arraylength, 1) := by decide +kernel
theorem d3_2 : decode prog_17_method_2_code 2 = .ok (.iconst 1, 1) := by decide +kernel
theorem d3_3 : decode prog_17_method_2_code 3 = .ok (.iadd, 1) := by decide +kernel
theorem d3_4 : decode prog_17_method_2_code 4 = .ok (.bipush 10, 2) := by decide +kernel
theorem d3_6 : decode prog_17_method_2_code 6 = .ok (.iadd, 1) := by decide +kernel
theorem d3_7 : decode prog_17_method_2_code 7 = .ok (.istore_n 2, 1) := by decide +kernel
theorem d3_8 : decode prog_17_method_2_code 8 = .ok (.aload_n 0, 1) := by decide +kernel
theorem d3_9 : decode prog_17_method_2_code 9 = .ok (.getfield 7, 3) := by decide +kernel
theorem d3_12 : decode prog_17_method_2_code 12 = .ok (.arraylength, 1) := by decide +kernel
theorem d3_13 : decode prog_17_method_2_code 13 = .ok (.iload_n 2, 1) := by decide +kernel
theorem d3_14 : decode prog_17_method_2_code 14 = .ok (.if_icmp .ge 10, 3) := by decide +kernel
theorem d3_17 : decode prog_17_method_2_code 17 = .ok (.aload_n 0, 1) := by decide +kernel
theorem d3_18 : decode prog_17_method_2_code 18 = .ok (.iload_n 2, 1) := by decide +kernel
theorem d3_19 : decode prog_17_method_2_code 19 = .ok (.newarray .byte, 2) := by decide +kernel
theorem d3_21 : decode prog_17_method_2_code 21 = .ok (.putfield 7, 3) := by decide +kernel
theorem d3_24 : decode prog_17_method_2_code 24 = .ok (.aload_n 1, 1) := by decide +kernel
theorem d3_25 : decode prog_17_method_2_code 25 = .ok (.iconst 0, 1) := by decide +kernel
theorem d3_26 : decode prog_17_method_2_code 26 = .ok (.aload_n 0, 1) := by decide +kernel
theorem d3_27 : decode prog_17_method_2_code 27 = .ok (.getfield 7, 3) := by decide +kernel
theorem d3_30 : decode prog_17_method_2_code 30 = .ok (.iconst 0, 1) := by decide +kernel
theorem d3_31 : decode prog_17_method_2_code 31 = .ok (.aload_n 1, 1) := by decide +kernel
theorem d3_32 : decode prog_17_method_2_code 32 = .ok (.arraylength, 1) := by decide +kernel
theorem d3_33 : decode prog_17_method_2_code 33 = .ok (.invokestatic 17, 3) := by decide +kernel
theorem d3_36 : decode prog_17_method_2_code 36 = .ok (.aload_n 0, 1) := by decide +kernel
theorem d3_37 : decode prog_17_method_2_code 37 = .ok (.getfield 7, 3) := by decide +kernel
theorem d3_40 : decode prog_17_method_2_code 40 = .ok (.aload_n 1, 1) := by decide +kernel
theorem d3_41 : decode prog_17_method_2_code 41 = .ok (.arraylength, 1) := by decide +kernel
theorem d3_42 : decode prog_17_method_2_code 42 = .ok (.aload_n 0, 1) := by decide +kernel
theorem d3_43 : decode prog_17_method_2_code 43 = .ok (.getfield 13, 3) := by decide +kernel
theorem d3_46 : decode prog_17_method_2_code 46 = .ok (.bastore, 1) := by decide +kernel
theorem d3_47 : decode prog_17_method_2_code 47 = .ok (.aload_n 0, 1) := by decide +kernel
theorem d3_48 : decode prog_17_method_2_code 48 = .ok (.aload_n 1, 1) := by decide +kernel
theorem d3_49 : decode prog_17_method_2_code 49 = .ok (.arraylength, 1) := by decide +kernel
theorem d3_50 : decode prog_17_method_2_code 50 = .ok (.iconst 1, 1) := by decide +kernel
theorem d3_51 : decode prog_17_method_2_code 51 = .ok (.iadd, 1) := by decide +kernel
theorem d3_52 : decode prog_17_method_2_code 52 = .ok (.putfield 23, 3) := by decide +kernel
theorem d3_55 : decode prog_17_method_2_code 55 = .ok (.return_, 1) := by decide +kernel
theorem pn_3 : plainName "com/example/gyre/gyre/NodeLabel" = true := by first | (simp [plainName, overriddenIn]; done) | decide +kernel
theorem ef_3 (m : MethodId) (x0 : Addr) (x1 : Addr) : entryFrame m #[(.ref x0), (.ref x1)] 3 = mkF m 0 #[.val (.ref x0), .val (.ref x1), .unset] [] := by first | (simp [entryFrame, mkF, argsToLocals, Value.category]; done) | rfl
set_option maxRecDepth 65536 in
set_option maxHeartbeats 40000000 in
theorem rm3 (l : Launch) (Z : State) (a0 : Array Value) (hw : ∀ d ∈ tables_1, d.before a0 Z = true) (ws : List Jvm.Cond) (a1 an ab : Addr) (sb len nb u : Int32) (fn fb : Nat → Int32) (h0 : Heap) (n0 : Nat) (Z0 : n0 ≤ h0.size) (E1 : Exa Z h0 a1 "com/example/gyre/gyre/NodeLabel") (F_bytes : Fld Z h0 a1 "com/example/gyre/gyre/NodeLabel" "bytes" "[B" (.ref ab)) (F_separator : Fld Z h0 a1 "com/example/gyre/gyre/NodeLabel" "separator" "B" (.int sb)) (F_numberFrom : Fld Z h0 a1 "com/example/gyre/gyre/NodeLabel" "numberFrom" "I" (.int u)) (Vn : own_A Z h0 an .byte len fn) (Vb : own_A Z h0 ab .byte nb fb) (g1 : n0 ≤ a1) (gb : n0 ≤ ab) (ne1 : a1 ≠ an) (ne2 : a1 ≠ ab) (ne3 : an ≠ ab) (hl : 0 ≤ len.toInt ∧ len.toInt ≤ 3) (hsb : nar .byte sb = sb) (hc : ¬ nb < len + (11 : Int32)) :
    MetFree l (⟨"com/example/gyre/gyre/NodeLabel", "startNode", "([B)V"⟩ : MethodName) (head1 (Jvm.Cond.code (⟨"com/example/gyre/gyre/NodeLabel", "startNode", "([B)V"⟩ : MethodName) prog_17_method_2_code 3 none :: ws) ({ frames := 1, cells := 0, slots := 0, locals := 40 } : Room)) (fun a U => a = #[(.ref a1), (.ref an)] ∧ Z.Warmed39 U.vm ∧ U.heap = h0) (fun _ _ _ _ _ => True) (fun _ U o U' => ∃ v L, o = .returned v ∧ Q3 Z a1 an ab sb len nb fn fb h0 n0 v U'.heap L ∧ FrameEnd U o U' L ({ frames := 1, cells := 0, slots := 0, locals := 40 } : Room).cells ({ frames := 1, cells := 0, slots := 0, locals := 40 } : Room).slots) := by
  refine MetFree.of_bodySF (plainFor_of_name pn_3) hisR ?_
  intro p e s m args below meth c s₁ Bd hml0 hP hK
  obtain ⟨rfl, hZ, hh⟩ := hP
  have hx := Bd.exec
  have hby := Bd.bytes
  have hml : c.maxLocals = 3 := hml0
  have hown : s.vm.findClass "com/example/gyre/gyre/NodeLabel" = some m.cls := findClass_of_methodNamed Bd.named
  have hnm := (name_of_methodNamed Bd.named Bd.method).1
  have X0 : Stand p l e ({ frames := 1, cells := 0, slots := 0, locals := 40 } : Room) s m #[(.ref a1), (.ref an)] below meth c s₁ [] 0 0 := Stand.of_body Bd
  have e0 : s₁.heap = h0 := by rw [← hh, Bd.state]; rfl
  have N0 := Fr.nil n0
  have pre0 : own_Go p e below (s₁.setTop (entryFrame m #[(.ref a1), (.ref an)] 3)) (s₁.setTop (mkF m 0 #[.val (.ref a1), .val (.ref an), .unset] [])) := fun t k => castTop (ef_3 m a1 an) k
  have ln0 : ¬ len < 0 := own_n0 hl.1
  have z11 : (11 : Int32).toInt = 11 := by decide
  have c11 := own_add (x := len) (k := 11) hl.1 (by omega) (by omega) (by omega)
  have pre1 : own_Go p e below (s₁.setTop (entryFrame m #[(.ref a1), (.ref an)] 3)) (s₁.setTop (mkF m 1 #[.val (.ref a1), .val (.ref an), .unset] [(.ref an)])) := fun t k => pre0 t (by
      show Steps p.tables e below (s₁.setTop (mkF m 0 #[.val (.ref a1), .val (.ref an), .unset] [])) _
      refine XS.aloadN X0.here hx rfl (hb hby d3_0) rfl rfl ?_
      exact k)
  obtain ⟨cl2, Ar2, ln2⟩ := own_A.len Vn
  have pre3 : own_Go p e below (s₁.setTop (entryFrame m #[(.ref a1), (.ref an)] 3)) (s₁.setTop (mkF m 2 #[.val (.ref a1), .val (.ref an), .unset] [(.int len)])) := fun t k => pre1 t (X0.arraylength hx (by rw [show s₁.heap = h0 from e0]; exact Ar2.1) (State.isArrayOf_alike hZ.alike Ar2.2.1) (g := (mkF m 1 #[.val (.ref a1), .val (.ref an), .unset] [(.ref an)])) rfl rfl (hb hby d3_1) t (by rw [ln2]; exact k))
  have pre4 : own_Go p e below (s₁.setTop (entryFrame m #[(.ref a1), (.ref an)] 3)) (s₁.setTop (mkF m 7 #[.val (.ref a1), .val (.ref an), .unset] [(.int ((len + (1 : Int32)) + (10 : Int32)))])) := fun t k => pre3 t (by
      show Steps p.tables e below (s₁.setTop (mkF m 2 #[.val (.ref a1), .val (.ref an), .unset] [(.int len)])) _
      refine XS.iconst X0.here hx rfl (hb hby d3_2) ?_
      show Steps p.tables e below (s₁.setTop (mkF m 3 #[.val (.ref a1), .val (.ref an), .unset] [(.int (1 : Int32)), (.int len)])) _
      refine XS.iadd X0.here hx rfl (hb hby d3_3) rfl ?_
      show Steps p.tables e below (s₁.setTop (mkF m 4 #[.val (.ref a1), .val (.ref an), .unset] [(.int (len + (1 : Int32)))])) _
      refine XS.bipush X0.here hx rfl (hb hby d3_4) ?_
      show Steps p.tables e below (s₁.setTop (mkF m 6 #[.val (.ref a1), .val (.ref an), .unset] [(.int (10 : Int32)), (.int (len + (1 : Int32)))])) _
      refine XS.iadd X0.here hx rfl (hb hby d3_6) rfl ?_
      exact k)
  obtain ⟨cp, e_cp, pre5⟩ : ∃ cp : Int32, cp = ((len + (1 : Int32)) + (10 : Int32)) ∧ own_Go p e below (s₁.setTop (entryFrame m #[(.ref a1), (.ref an)] 3)) (s₁.setTop (mkF m 7 #[.val (.ref a1), .val (.ref an), .unset] [(.int cp)])) := ⟨_, rfl, pre4⟩
  rw [own_11] at e_cp
  rw [e_cp] at pre5
  have pre6 : own_Go p e below (s₁.setTop (entryFrame m #[(.ref a1), (.ref an)] 3)) (s₁.setTop (mkF m 9 #[.val (.ref a1), .val (.ref an), .val (.int (len + (11 : Int32)))] [(.ref a1)])) := fun t k => pre5 t (by
      show Steps p.tables e below (s₁.setTop (mkF m 7 #[.val (.ref a1), .val (.ref an), .unset] [(.int (len + (11 : Int32)))])) _
      refine XS.istoreN X0.here hx rfl (hb hby d3_7) rfl (l' := #[.val (.ref a1), .val (.ref an), .val (.int (len + (11 : Int32)))]) rfl ?_
      show Steps p.tables e below (s₁.setTop (mkF m 8 #[.val (.ref a1), .val (.ref an), .val (.int (len + (11 : Int32)))] [])) _
      refine XS.aloadN X0.here hx rfl (hb hby d3_8) rfl rfl ?_
      exact k)
  obtain ⟨T7, X7, e7, st7⟩ := getF X0 hx hZ hown (host := "") (Or.inl (hw _ (List.mem_of_getElem? (i := 14) rfl))) Via.refl e0 F_bytes (g := (mkF m 9 #[.val (.ref a1), .val (.ref an), .val (.int (len + (11 : Int32)))] [(.ref a1)])) rfl rfl (hb hby d3_9)
  have pre8 : own_Go p e below (s₁.setTop (entryFrame m #[(.ref a1), (.ref an)] 3)) (T7.setTop (mkF m 12 #[.val (.ref a1), .val (.ref an), .val (.int (len + (11 : Int32)))] [(.ref ab)])) := fun t k => pre6 t (st7 t k)
  obtain ⟨cl9, Ar9, ln9⟩ := own_A.len Vb
  have pre10 : own_Go p e below (s₁.setTop (entryFrame m #[(.ref a1), (.ref an)] 3)) (T7.setTop (mkF m 13 #[.val (.ref a1), .val (.ref an), .val (.int (len + (11 : Int32)))] [(.int nb)])) := fun t k => pre8 t (X7.arraylength hx (by rw [show T7.heap = h0 from e7]; exact Ar9.1) (State.isArrayOf_alike hZ.alike Ar9.2.1) (g := (mkF m 12 #[.val (.ref a1), .val (.ref an), .val (.int (len + (11 : Int32)))] [(.ref ab)])) rfl rfl (hb hby d3_12) t (by rw [ln9]; exact k))
  have hc' := hc
  rw [Int32.lt_iff_toInt_lt] at hc'
  have hin : len < nb := own_lt (by omega)
  have hle : len.toNatClampNeg ≤ nb.toNatClampNeg := own_natle hl.1 (by omega)
  have pre11 : own_Go p e below (s₁.setTop (entryFrame m #[(.ref a1), (.ref an)] 3)) (T7.setTop (mkF m 27 #[.val (.ref a1), .val (.ref an), .val (.int (len + (11 : Int32)))] [(.ref a1), (.int (0 : Int32)), (.ref an)])) := fun t k => pre10 t (by
      show Steps p.tables e below (T7.setTop (mkF m 13 #[.val (.ref a1), .val (.ref an), .val (.int (len + (11 : Int32)))] [(.int nb)])) _
      refine XS.iloadN X7.here hx rfl (hb hby d3_13) rfl ?_
      show Steps p.tables e below (T7.setTop (mkF m 14 #[.val (.ref a1), .val (.ref an), .val (.int (len + (11 : Int32)))] [(.int (len + (11 : Int32))), (.int nb)])) _
      refine XS.icmpYes X7.here hx rfl (pc0 := 14) (pc' := 24) rfl (hb hby d3_14) rfl (XT.ii_ge_t hc) (by decide) (by decide) ?_
      show Steps p.tables e below (T7.setTop (mkF m 24 #[.val (.ref a1), .val (.ref an), .val (.int (len + (11 : Int32)))] [])) _
      refine XS.aloadN X7.here hx rfl (hb hby d3_24) rfl rfl ?_
      show Steps p.tables e below (T7.setTop (mkF m 25 #[.val (.ref a1), .val (.ref an), .val (.int (len + (11 : Int32)))] [(.ref an)])) _
      refine XS.iconst X7.here hx rfl (hb hby d3_25) ?_
      show Steps p.tables e below (T7.setTop (mkF m 26 #[.val (.ref a1), .val (.ref an), .val (.int (len + (11 : Int32)))] [(.int (0 : Int32)), (.ref an)])) _
      refine XS.aloadN X7.here hx rfl (hb hby d3_26) rfl rfl ?_
      exact k)
  obtain ⟨T12, X12, e12, st12⟩ := getF X7 hx hZ hown (host := "") (Or.inl (hw _ (List.mem_of_getElem? (i := 14) rfl))) Via.refl e7 F_bytes (g := (mkF m 27 #[.val (.ref a1), .val (.ref an), .val (.int (len + (11 : Int32)))] [(.ref a1), (.int (0 : Int32)), (.ref an)])) rfl rfl (hb hby d3_27)
  have pre13 : own_Go p e below (s₁.setTop (entryFrame m #[(.ref a1), (.ref an)] 3)) (T12.setTop (mkF m 30 #[.val (.ref a1), .val (.ref an), .val (.int (len + (11 : Int32)))] [(.ref ab), (.int (0 : Int32)), (.ref an)])) := fun t k => pre11 t (st12 t k)
  have pre14 : own_Go p e below (s₁.setTop (entryFrame m #[(.ref a1), (.ref an)] 3)) (T12.setTop (mkF m 32 #[.val (.ref a1), .val (.ref an), .val (.int (len + (11 : Int32)))] [(.ref an), (.int (0 : Int32)), (.ref ab), (.int (0 : Int32)), (.ref an)])) := fun t k => pre13 t (by
      show Steps p.tables e below (T12.setTop (mkF m 30 #[.val (.ref a1), .val (.ref an), .val (.int (len + (11 : Int32)))] [(.ref ab), (.int (0 : Int32)), (.ref an)])) _
      refine XS.iconst X12.here hx rfl (hb hby d3_30) ?_
      show Steps p.tables e below (T12.setTop (mkF m 31 #[.val (.ref a1), .val (.ref an), .val (.int (len + (11 : Int32)))] [(.int (0 : Int32)), (.ref ab), (.int (0 : Int32)), (.ref an)])) _
      refine XS.aloadN X12.here hx rfl (hb hby d3_31) rfl rfl ?_
      exact k)
  obtain ⟨cl15, Ar15, ln15⟩ := own_A.len Vn
  have pre16 : own_Go p e below (s₁.setTop (entryFrame m #[(.ref a1), (.ref an)] 3)) (T12.setTop (mkF m 33 #[.val (.ref a1), .val (.ref an), .val (.int (len + (11 : Int32)))] [(.int len), (.int (0 : Int32)), (.ref ab), (.int (0 : Int32)), (.ref an)])) := fun t k => pre14 t (X12.arraylength hx (by rw [show T12.heap = h0 from e12]; exact Ar15.1) (State.isArrayOf_alike hZ.alike Ar15.2.1) (g := (mkF m 32 #[.val (.ref a1), .val (.ref an), .val (.int (len + (11 : Int32)))] [(.ref an), (.int (0 : Int32)), (.ref ab), (.int (0 : Int32)), (.ref an)])) rfl rfl (hb hby d3_32) t (by rw [ln15]; exact k))
  obtain ⟨T17, h17, L17, X17, e17, N17, K17, V17, st17⟩ := own_cp X12 hx hZ hown (hw _ (List.mem_of_getElem? (i := 23) rfl)) (hw _ (List.mem_of_getElem? (i := 26) rfl)) (hw _ (List.mem_of_getElem? (i := 24) rfl)) (hw _ (List.mem_of_getElem? (i := 25) rfl)) e12 Vn Vb ln0 (Nat.le_refl _) hle N0 gb (g := (mkF m 33 #[.val (.ref a1), .val (.ref an), .val (.int (len + (11 : Int32)))] [(.int len), (.int (0 : Int32)), (.ref ab), (.int (0 : Int32)), (.ref an)])) rfl (by rw [hml]; rfl) rfl (hb hby d3_33) (by decide) (W := 0) (by show 2 * 0 + _ ≤ _; exact Nat.le_of_eq rfl) (by decide)
  have pre18 : own_Go p e below (s₁.setTop (entryFrame m #[(.ref a1), (.ref an)] 3)) (T17.setTop (mkF m 36 #[.val (.ref a1), .val (.ref an), .val (.int (len + (11 : Int32)))] [])) := fun t k => pre16 t (st17 t k)
  have F_19 := F_bytes.keep K17 (ninS ne2 nin0)
  have F_20 := F_separator.keep K17 (ninS ne2 nin0)
  have F_21 := F_numberFrom.keep K17 (ninS ne2 nin0)
  have Ex_22 := E1.keep K17
  have V_23 := Vn.keep K17 (ninS ne3 nin0)
  have K_24 := (Keep.refl h0 [a1, ab]).trans K17 (allS (Or.inl (List.mem_of_getElem? (i := 1) rfl)) all0)
  have pre25 : own_Go p e below (s₁.setTop (entryFrame m #[(.ref a1), (.ref an)] 3)) (T17.setTop (mkF m 37 #[.val (.ref a1), .val (.ref an), .val (.int (len + (11 : Int32)))] [(.ref a1)])) := fun t k => pre18 t (by
      show Steps p.tables e below (T17.setTop (mkF m 36 #[.val (.ref a1), .val (.ref an), .val (.int (len + (11 : Int32)))] [])) _
      refine XS.aloadN X17.here hx rfl (hb hby d3_36) rfl rfl ?_
      exact k)
  obtain ⟨T26, X26, e26, st26⟩ := getF X17 hx hZ hown (host := "") (Or.inl (hw _ (List.mem_of_getElem? (i := 14) rfl))) Via.refl e17 F_19 (g := (mkF m 37 #[.val (.ref a1), .val (.ref an), .val (.int (len + (11 : Int32)))] [(.ref a1)])) rfl rfl (hb hby d3_37)
  have pre27 : own_Go p e below (s₁.setTop (entryFrame m #[(.ref a1), (.ref an)] 3)) (T26.setTop (mkF m 40 #[.val (.ref a1), .val (.ref an), .val (.int (len + (11 : Int32)))] [(.ref ab)])) := fun t k => pre25 t (st26 t k)
  have pre28 : own_Go p e below (s₁.setTop (entryFrame m #[(.ref a1), (.ref an)] 3)) (T26.setTop (mkF m 41 #[.val (.ref a1), .val (.ref an), .val (.int (len + (11 : Int32)))] [(.ref an), (.ref ab)])) := fun t k => pre27 t (by
      show Steps p.tables e below (T26.setTop (mkF m 40 #[.val (.ref a1), .val (.ref an), .val (.int (len + (11 : Int32)))] [(.ref ab)])) _
      refine XS.aloadN X26.here hx rfl (hb hby d3_40) rfl rfl ?_
      exact k)
  obtain ⟨cl29, Ar29, ln29⟩ := own_A.len V_23
  have pre30 : own_Go p e below (s₁.setTop (entryFrame m #[(.ref a1), (.ref an)] 3)) (T26.setTop (mkF m 42 #[.val (.ref a1), .val (.ref an), .val (.int (len + (11 : Int32)))] [(.int len), (.ref ab)])) := fun t k => pre28 t (X26.arraylength hx (by rw [show T26.heap = h17 from e26]; exact Ar29.1) (State.isArrayOf_alike hZ.alike Ar29.2.1) (g := (mkF m 41 #[.val (.ref a1), .val (.ref an), .val (.int (len + (11 : Int32)))] [(.ref an), (.ref ab)])) rfl rfl (hb hby d3_41) t (by rw [ln29]; exact k))
  have pre31 : own_Go p e below (s₁.setTop (entryFrame m #[(.ref a1), (.ref an)] 3)) (T26.setTop (mkF m 43 #[.val (.ref a1), .val (.ref an), .val (.int (len + (11 : Int32)))] [(.ref a1), (.int len), (.ref ab)])) := fun t k => pre30 t (by
      show Steps p.tables e below (T26.setTop (mkF m 42 #[.val (.ref a1), .val (.ref an), .val (.int (len + (11 : Int32)))] [(.int len), (.ref ab)])) _
      refine XS.aloadN X26.here hx rfl (hb hby d3_42) rfl rfl ?_
      exact k)
  obtain ⟨T32, X32, e32, st32⟩ := getF X26 hx hZ hown (host := "") (Or.inl (hw _ (List.mem_of_getElem? (i := 16) rfl))) Via.refl e26 F_20 (g := (mkF m 43 #[.val (.ref a1), .val (.ref an), .val (.int (len + (11 : Int32)))] [(.ref a1), (.int len), (.ref ab)])) rfl rfl (hb hby d3_43)
  have pre33 : own_Go p e below (s₁.setTop (entryFrame m #[(.ref a1), (.ref an)] 3)) (T32.setTop (mkF m 46 #[.val (.ref a1), .val (.ref an), .val (.int (len + (11 : Int32)))] [(.int sb), (.int len), (.ref ab)])) := fun t k => pre31 t (st32 t k)
  obtain ⟨cl34, Ar34, hin34, -⟩ := own_A.at V17 (j := len) ln0 hin
  obtain ⟨T34, h34, X34, e34, W34, st34⟩ := stB X32 hx hZ e32 Ar34 (j := len) hin34 (g := (mkF m 46 #[.val (.ref a1), .val (.ref an), .val (.int (len + (11 : Int32)))] [(.int sb), (.int len), (.ref ab)])) rfl rfl (hb hby d3_46)
  have N34 := Fr.snoc X34 N17 gb
  have pre35 : own_Go p e below (s₁.setTop (entryFrame m #[(.ref a1), (.ref an)] 3)) (T34.setTop (mkF m 47 #[.val (.ref a1), .val (.ref an), .val (.int (len + (11 : Int32)))] [])) := fun t k => pre33 t (st34 t k)
  have V_36 := own_A.set V17 W34 (fits_nar_byte _)
  have F_37 := F_19.other W34 (Or.inl ne2)
  have F_38 := F_20.other W34 (Or.inl ne2)
  have F_39 := F_21.other W34 (Or.inl ne2)
  have Ex_40 := Ex_22.wr W34
  have V_41 := V_23.other W34 ne3
  have K_42 := K_24.wr W34 (Or.inl (List.mem_of_getElem? (i := 1) rfl))
  have pre43 : own_Go p e below (s₁.setTop (entryFrame m #[(.ref a1), (.ref an)] 3)) (T34.setTop (mkF m 49 #[.val (.ref a1), .val (.ref an), .val (.int (len + (11 : Int32)))] [(.ref an), (.ref a1)])) := fun t k => pre35 t (by
      show Steps p.tables e below (T34.setTop (mkF m 47 #[.val (.ref a1), .val (.ref an), .val (.int (len + (11 : Int32)))] [])) _
      refine XS.aloadN X34.here hx rfl (hb hby d3_47) rfl rfl ?_
      show Steps p.tables e below (T34.setTop (mkF m 48 #[.val (.ref a1), .val (.ref an), .val (.int (len + (11 : Int32)))] [(.ref a1)])) _
      refine XS.aloadN X34.here hx rfl (hb hby d3_48) rfl rfl ?_
      exact k)
  obtain ⟨cl44, Ar44, ln44⟩ := own_A.len V_41
  have pre45 : own_Go p e below (s₁.setTop (entryFrame m #[(.ref a1), (.ref an)] 3)) (T34.setTop (mkF m 50 #[.val (.ref a1), .val (.ref an), .val (.int (len + (11 : Int32)))] [(.int len), (.ref a1)])) := fun t k => pre43 t (X34.arraylength hx (by rw [show T34.heap = h34 from e34]; exact Ar44.1) (State.isArrayOf_alike hZ.alike Ar44.2.1) (g := (mkF m 49 #[.val (.ref a1), .val (.ref an), .val (.int (len + (11 : Int32)))] [(.ref an), (.ref a1)])) rfl rfl (hb hby d3_49) t (by rw [ln44]; exact k))
  have pre46 : own_Go p e below (s₁.setTop (entryFrame m #[(.ref a1), (.ref an)] 3)) (T34.setTop (mkF m 52 #[.val (.ref a1), .val (.ref an), .val (.int (len + (11 : Int32)))] [(.int (len + (1 : Int32))), (.ref a1)])) := fun t k => pre45 t (by
      show Steps p.tables e below (T34.setTop (mkF m 50 #[.val (.ref a1), .val (.ref an), .val (.int (len + (11 : Int32)))] [(.int len), (.ref a1)])) _
      refine XS.iconst X34.here hx rfl (hb hby d3_50) ?_
      show Steps p.tables e below (T34.setTop (mkF m 51 #[.val (.ref a1), .val (.ref an), .val (.int (len + (11 : Int32)))] [(.int (1 : Int32)), (.int len), (.ref a1)])) _
      refine XS.iadd X34.here hx rfl (hb hby d3_51) rfl ?_
      exact k)
  obtain ⟨T47, h47, X47, e47, W47, st47⟩ := putF X34 hx hZ hown (host := "") (Or.inl (hw _ (List.mem_of_getElem? (i := 27) rfl))) Via.refl e34 F_39 Ex_40 (Or.inl (hw _ (List.mem_of_getElem? (i := 28) rfl))) (hw _ (List.mem_of_getElem? (i := 6) rfl)) (ty := .int) (by decide) rfl rfl (g := (mkF m 52 #[.val (.ref a1), .val (.ref an), .val (.int (len + (11 : Int32)))] [(.int (len + (1 : Int32))), (.ref a1)])) rfl rfl (hb hby d3_52)
  have N47 := Fr.snoc X47 N34 g1
  have pre48 : own_Go p e below (s₁.setTop (entryFrame m #[(.ref a1), (.ref an)] 3)) (T47.setTop (mkF m 55 #[.val (.ref a1), .val (.ref an), .val (.int (len + (11 : Int32)))] [])) := fun t k => pre46 t (st47 t k)
  have F_49 := F_37.other W47 (Or.inr (slot_ne (Or.inl (hw _ (List.mem_of_getElem? (i := 15) rfl))) (Or.inl (hw _ (List.mem_of_getElem? (i := 28) rfl))) (by decide) (t := (.array .byte)) (by decide) (t' := .int) (by decide)))
  have F_50 := F_38.other W47 (Or.inr (slot_ne (Or.inr (hw _ (List.mem_of_getElem? (i := 17) rfl))) (Or.inl (hw _ (List.mem_of_getElem? (i := 28) rfl))) (by decide) (t := .byte) (by decide) (t' := .int) (by decide)))
  have F_51 := F_39.same W47
  have Ex_52 := Ex_40.wr W47
  have V_53 := V_41.other W47 (Ne.symm ne1)
  have V_54 := V_36.other W47 (Ne.symm ne2)
  have K_55 := K_42.wr W47 (Or.inl (List.mem_of_getElem? (i := 0) rfl))
  have Vfin := V_54
  rw [hsb] at Vfin
  obtain ⟨fs, hr, hrun, hended, hW, hsame⟩ := X47.leave (v := none) (fun _ => rfl)
  refine ⟨_, _, pre48 _ ?_, hrun, hended, _, _, rfl, ?_, ⟨_, rfl⟩, hW, hsame.mono (by decide) (by decide)⟩
  · show Steps p.tables e below (T47.setTop (mkF m 55 #[.val (.ref a1), .val (.ref an), .val (.int (len + (11 : Int32)))] [])) _
    exact X47.returnOut hx Bd.returns (hb hby d3_55) hr
  · show Q3 Z a1 an ab sb len nb fn fb h0 n0 _ T47.heap _
    rw [e47]
    exact ⟨rfl, N47, K_55, F_49, F_50, F_51, Vfin⟩
def Q7 (Z : State) (a1 an ab : Addr) (sb len nb : Int32) (fn fb : Nat → Int32) (h0 : Heap) (n0 : Nat) (v : Option Value) (h : Heap) (L : List Loc) : Prop := v = none ∧ Fr n0 L ∧ Keep h0 h [a1] ∧ ∃ ab' : Addr, h0.size ≤ ab' ∧ Fld Z h a1 "com/example/gyre/gyre/NodeLabel" "bytes" "[B" (.ref ab') ∧ Fld Z h a1 "com/example/gyre/gyre/NodeLabel" "separator" "B" (.int sb) ∧ Fld Z h a1 "com/example/gyre/gyre/NodeLabel" "numberFrom" "I" (.int (len + (1 : Int32))) ∧ own_A Z h ab' .byte (len + (11 : Int32)) (own_upd (own_mix2 len fn (fun _ => 0)) len.toNatClampNeg sb)
theorem d7_0 : decode prog_17_method_2_code 0 = .ok (.aload_n 1, 1) := by decide +kernel
theorem d7_1 : decode prog_17_method_2_code 1 = .ok (.arraylength, 1) := by decide +kernel
theorem d7_2 : decode prog_17_method_2_code 2 = .ok (.iconst 1, 1) := by decide +kernel
theorem d7_3 : decode prog_17_method_2_code 3 = .ok (.iadd, 1) := by decide +kernel
theorem d7_4 : decode prog_17_method_2_code 4 = .ok (.bipush 10, 2) := by decide +kernel
theorem d7_6 : decode prog_17_method_2_code 6 = .ok (.iadd, 1) := by decide +kernel
theorem d7_7 : decode prog_17_method_2_code 7 = .ok (.istore_n 2, 1) := by decide +kernel
theorem d7_8 : decode prog_17_method_2_code 8 = .ok (.aload_n 0, 1) := by decide +kernel
theorem d7_9 : decode prog_17_method_2_code 9 = .ok (.getfield 7, 3) := by decide +kernel
theorem d7_12 : decode prog_17_method_2_code 12 = .ok (.arraylength, 1) := by decide +kernel
theorem d7_13 : decode prog_17_method_2_code 13 = .ok (.iload_n 2, 1) := by decide +kernel
theorem d7_14 : decode prog_17_method_2_code 14 = .ok (.if_icmp .ge 10, 3) := by decide +kernel
theorem d7_17 : decode prog_17_method_2_code 17 = .ok (.aload_n 0, 1) := by decide +kernel
theorem d7_18 : decode prog_17_method_2_code 18 = .ok (.iload_n 2, 1) := by decide +kernel
theorem d7_19 : decode prog_17_method_2_code 19 = .ok (.newarray .byte, 2) := by decide +kernel
theorem d7_21 : decode prog_17_method_2_code 21 = .ok (.putfield 7, 3) := by decide +kernel
theorem d7_24 : decode prog_17_method_2_code 24 = .ok (.aload_n 1, 1) := by decide +kernel
theorem d7_25 : decode prog_17_method_2_code 25 = .ok (.iconst 0, 1) := by decide +kernel
theorem d7_26 : decode prog_17_method_2_code 26 = .ok (.aload_n 0, 1) := by decide +kernel
theorem d7_27 : decode prog_17_method_2_code 27 = .ok (.getfield 7, 3) := by decide +kernel
theorem d7_30 : decode prog_17_method_2_code 30 = .ok (.iconst 0, 1) := by decide +kernel
theorem d7_31 : decode prog_17_method_2_code 31 = .ok (.aload_n 1, 1) := by decide +kernel
theorem d7_32 : decode prog_17_method_2_code 32 = .ok (.arraylength, 1) := by decide +kernel
theorem d7_33 : decode prog_17_method_2_code 33 = .ok (.invokestatic 17, 3) := by decide +kernel
theorem d7_36 : decode prog_17_method_2_code 36 = .ok (.aload_n 0, 1) := by decide +kernel
theorem d7_37 : decode prog_17_method_2_code 37 = .ok (.getfield 7, 3) := by decide +kernel
theorem d7_40 : decode prog_17_method_2_code 40 = .ok (.aload_n 1, 1) := by decide +kernel
theorem d7_41 : decode prog_17_method_2_code 41 = .ok (.arraylength, 1) := by decide +kernel
theorem d7_42 : decode prog_17_method_2_code 42 = .ok (.aload_n 0, 1) := by decide +kernel
theorem d7_43 : decode prog_17_method_2_code 43 = .ok (.getfield 13, 3) := by decide +kernel
theorem d7_46 : decode prog_17_method_2_code 46 = .ok (.bastore, 1) := by decide +kernel
theorem d7_47 : decode prog_17_method_2_code 47 = .ok (.aload_n 0, 1) := by decide +kernel
theorem d7_48 : decode prog_17_method_2_code 48 = .ok (.aload_n 1, 1) := by decide +kernel
theorem d7_49 : decode prog_17_method_2_code 49 = .ok (.arraylength, 1) := by decide +kernel
theorem d7_50 : decode prog_17_method_2_code 50 = .ok (.iconst 1, 1) := by decide +kernel
theorem d7_51 : decode prog_17_method_2_code 51 = .ok (.iadd, 1) := by decide +kernel
theorem d7_52 : decode prog_17_method_2_code 52 = .ok (.putfield 23, 3) := by decide +kernel
theorem d7_55 : decode prog_17_method_2_code 55 = .ok (.return_, 1) := by decide +kernel
theorem pn_7 : plainName "com/example/gyre/gyre/NodeLabel" = true := by first | (simp [plainName, overriddenIn]; done) | decide +kernel
theorem ef_7 (m : MethodId) (x0 : Addr) (x1 : Addr) : entryFrame m #[(.ref x0), (.ref x1)] 3 = mkF m 0 #[.val (.ref x0), .val (.ref x1), .unset] [] := by first | (simp [entryFrame, mkF, argsToLocals, Value.category]; done) | rfl
set_option maxRecDepth 65536 in
set_option maxHeartbeats 40000000 in
theorem rm7 (l : Launch) (Z : State) (a0 : Array Value) (hw : ∀ d ∈ tables_1, d.before a0 Z = true) (ws : List Jvm.Cond) (a1 an ab : Addr) (sb len nb u : Int32) (fn fb : Nat → Int32) (h0 : Heap) (n0 : Nat) (Z0 : n0 ≤ h0.size) (E1 : Exa Z h0 a1 "com/example/gyre/gyre/NodeLabel") (F_bytes : Fld Z h0 a1 "com/example/gyre/gyre/NodeLabel" "bytes" "[B" (.ref ab)) (F_separator : Fld Z h0 a1 "com/example/gyre/gyre/NodeLabel" "separator" "B" (.int sb)) (F_numberFrom : Fld Z h0 a1 "com/example/gyre/gyre/NodeLabel" "numberFrom" "I" (.int u)) (Vn : own_A Z h0 an .byte len fn) (Vb : own_A Z h0 ab .byte nb fb) (g1 : n0 ≤ a1) (gb : n0 ≤ ab) (ne1 : a1 ≠ an) (ne2 : a1 ≠ ab) (ne3 : an ≠ ab) (hl : 0 ≤ len.toInt ∧ len.toInt ≤ 3) (hsb : nar .byte sb = sb) (hc : nb < len + (11 : Int32)) :
    MetFree l (⟨"com/example/gyre/gyre/NodeLabel", "startNode", "([B)V"⟩ : MethodName) (head1 (Jvm.Cond.code (⟨"com/example/gyre/gyre/NodeLabel", "startNode", "([B)V"⟩ : MethodName) prog_17_method_2_code 3 none :: ws) ({ frames := 1, cells := 1, slots := 14, locals := 40 } : Room)) (fun a U => a = #[(.ref a1), (.ref an)] ∧ Z.Warmed39 U.vm ∧ U.heap = h0) (fun _ _ _ _ _ => True) (fun _ U o U' => ∃ v L, o = .returned v ∧ Q7 Z a1 an ab sb len nb fn fb h0 n0 v U'.heap L ∧ FrameEnd U o U' L ({ frames := 1, cells := 1, slots := 14, locals := 40 } : Room).cells ({ frames := 1, cells := 1, slots := 14, locals := 40 } : Room).slots) := by
  refine MetFree.of_bodySF (plainFor_of_name pn_7) hisR ?_
  intro p e s m args below meth c s₁ Bd hml0 hP hK
  obtain ⟨rfl, hZ, hh⟩ := hP
  have hx := Bd.exec
  have hby := Bd.bytes
  have hml : c.maxLocals = 3 := hml0
  have hown : s.vm.findClass "com/example/gyre/gyre/NodeLabel" = some m.cls := findClass_of_methodNamed Bd.named
  have hnm := (name_of_methodNamed Bd.named Bd.method).1
  have X0 : Stand p l e ({ frames := 1, cells := 1, slots := 14, locals := 40 } : Room) s m #[(.ref a1), (.ref an)] below meth c s₁ [] 0 0 := Stand.of_body Bd
  have e0 : s₁.heap = h0 := by rw [← hh, Bd.state]; rfl
  have N0 := Fr.nil n0
  have pre0 : own_Go p e below (s₁.setTop (entryFrame m #[(.ref a1), (.ref an)] 3)) (s₁.setTop (mkF m 0 #[.val (.ref a1), .val (.ref an), .unset] [])) := fun t k => castTop (ef_7 m a1 an) k
  have ln0 : ¬ len < 0 := own_n0 hl.1
  have z11 : (11 : Int32).toInt = 11 := by decide
  have c11 := own_add (x := len) (k := 11) hl.1 (by omega) (by omega) (by omega)
  have pre1 : own_Go p e below (s₁.setTop (entryFrame m #[(.ref a1), (.ref an)] 3)) (s₁.setTop (mkF m 1 #[.val (.ref a1), .val (.ref an), .unset] [(.ref an)])) := fun t k => pre0 t (by
      show Steps p.tables e below (s₁.setTop (mkF m 0 #[.val (.ref a1), .val (.ref an), .unset] [])) _
      refine XS.aloadN X0.here hx rfl (hb hby d7_0) rfl rfl ?_
      exact k)
  obtain ⟨cl2, Ar2, ln2⟩ := own_A.len Vn
  have pre3 : own_Go p e below (s₁.setTop (entryFrame m #[(.ref a1), (.ref an)] 3)) (s₁.setTop (mkF m 2 #[.val (.ref a1), .val (.ref an), .unset] [(.int len)])) := fun t k => pre1 t (X0.arraylength hx (by rw [show s₁.heap = h0 from e0]; exact Ar2.1) (State.isArrayOf_alike hZ.alike Ar2.2.1) (g := (mkF m 1 #[.val (.ref a1), .val (.ref an), .unset] [(.ref an)])) rfl rfl (hb hby d7_1) t (by rw [ln2]; exact k))
  have pre4 : own_Go p e below (s₁.setTop (entryFrame m #[(.ref a1), (.ref an)] 3)) (s₁.setTop (mkF m 7 #[.val (.ref a1), .val (.ref an), .unset] [(.int ((len + (1 : Int32)) + (10 : Int32)))])) := fun t k => pre3 t (by
      show Steps p.tables e below (s₁.setTop (mkF m 2 #[.val (.ref a1), .val (.ref an), .unset] [(.int len)])) _
      refine XS.iconst X0.here hx rfl (hb hby d7_2) ?_
      show Steps p.tables e below (s₁.setTop (mkF m 3 #[.val (.ref a1), .val (.ref an), .unset] [(.int (1 : Int32)), (.int len)])) _
      refine XS.iadd X0.here hx rfl (hb hby d7_3) rfl ?_
      show Steps p.tables e below (s₁.setTop (mkF m 4 #[.val (.ref a1), .val (.ref an), .unset] [(.int (len + (1 : Int32)))])) _
      refine XS.bipush X0.here hx rfl (hb hby d7_4) ?_
      show Steps p.tables e below (s₁.setTop (mkF m 6 #[.val (.ref a1), .val (.ref an), .unset] [(.int (10 : Int32)), (.int (len + (1 : Int32)))])) _
      refine XS.iadd X0.here hx rfl (hb hby d7_6) rfl ?_
      exact k)
  obtain ⟨cp, e_cp, pre5⟩ : ∃ cp : Int32, cp = ((len + (1 : Int32)) + (10 : Int32)) ∧ own_Go p e below (s₁.setTop (entryFrame m #[(.ref a1), (.ref an)] 3)) (s₁.setTop (mkF m 7 #[.val (.ref a1), .val (.ref an), .unset] [(.int cp)])) := ⟨_, rfl, pre4⟩
  rw [own_11] at e_cp
  rw [e_cp] at pre5
  have pre6 : own_Go p e below (s₁.setTop (entryFrame m #[(.ref a1), (.ref an)] 3)) (s₁.setTop (mkF m 9 #[.val (.ref a1), .val (.ref an), .val (.int (len + (11 : Int32)))] [(.ref a1)])) := fun t k => pre5 t (by
      show Steps p.tables e below (s₁.setTop (mkF m 7 #[.val (.ref a1), .val (.ref an), .unset] [(.int (len + (11 : Int32)))])) _
      refine XS.istoreN X0.here hx rfl (hb hby d7_7) rfl (l' := #[.val (.ref a1), .val (.ref an), .val (.int (len + (11 : Int32)))]) rfl ?_
      show Steps p.tables e below (s₁.setTop (mkF m 8 #[.val (.ref a1), .val (.ref an), .val (.int (len + (11 : Int32)))] [])) _
      refine XS.aloadN X0.here hx rfl (hb hby d7_8) rfl rfl ?_
      exact k)
  obtain ⟨T7, X7, e7, st7⟩ := getF X0 hx hZ hown (host := "") (Or.inl (hw _ (List.mem_of_getElem? (i := 14) rfl))) Via.refl e0 F_bytes (g := (mkF m 9 #[.val (.ref a1), .val (.ref an), .val (.int (len + (11 : Int32)))] [(.ref a1)])) rfl rfl (hb hby d7_9)
  have pre8 : own_Go p e below (s₁.setTop (entryFrame m #[(.ref a1), (.ref an)] 3)) (T7.setTop (mkF m 12 #[.val (.ref a1), .val (.ref an), .val (.int (len + (11 : Int32)))] [(.ref ab)])) := fun t k => pre6 t (st7 t k)
  obtain ⟨cl9, Ar9, ln9⟩ := own_A.len Vb
  have pre10 : own_Go p e below (s₁.setTop (entryFrame m #[(.ref a1), (.ref an)] 3)) (T7.setTop (mkF m 13 #[.val (.ref a1), .val (.ref an), .val (.int (len + (11 : Int32)))] [(.int nb)])) := fun t k => pre8 t (X7.arraylength hx (by rw [show T7.heap = h0 from e7]; exact Ar9.1) (State.isArrayOf_alike hZ.alike Ar9.2.1) (g := (mkF m 12 #[.val (.ref a1), .val (.ref an), .val (.int (len + (11 : Int32)))] [(.ref ab)])) rfl rfl (hb hby d7_12) t (by rw [ln9]; exact k))
  have pre11 : own_Go p e below (s₁.setTop (entryFrame m #[(.ref a1), (.ref an)] 3)) (T7.setTop (mkF m 19 #[.val (.ref a1), .val (.ref an), .val (.int (len + (11 : Int32)))] [(.int (len + (11 : Int32))), (.ref a1)])) := fun t k => pre10 t (by
      show Steps p.tables e below (T7.setTop (mkF m 13 #[.val (.ref a1), .val (.ref an), .val (.int (len + (11 : Int32)))] [(.int nb)])) _
      refine XS.iloadN X7.here hx rfl (hb hby d7_13) rfl ?_
      show Steps p.tables e below (T7.setTop (mkF m 14 #[.val (.ref a1), .val (.ref an), .val (.int (len + (11 : Int32)))] [(.int (len + (11 : Int32))), (.int nb)])) _
      refine XS.icmpNo X7.here hx rfl (hb hby d7_14) rfl (XT.ii_ge_f hc) ?_
      show Steps p.tables e below (T7.setTop (mkF m 17 #[.val (.ref a1), .val (.ref an), .val (.int (len + (11 : Int32)))] [])) _
      refine XS.aloadN X7.here hx rfl (hb hby d7_17) rfl rfl ?_
      show Steps p.tables e below (T7.setTop (mkF m 18 #[.val (.ref a1), .val (.ref an), .val (.int (len + (11 : Int32)))] [(.ref a1)])) _
      refine XS.iloadN X7.here hx rfl (hb hby d7_18) rfl ?_
      exact k)
  obtain ⟨T12, h12, k12, X12, e12, E12, A12, st12⟩ := newP X7 hx hZ (hw _ (List.mem_of_getElem? (i := 4) rfl)) e7 (g := (mkF m 19 #[.val (.ref a1), .val (.ref an), .val (.int (len + (11 : Int32)))] [(.int (len + (11 : Int32))), (.ref a1)])) rfl (hb hby d7_19) rfl (own_n0 (by omega)) (cap := 14) (own_cap (by omega) (by omega)) (by decide) (by decide) (by decide)
  obtain ⟨b12, g12⟩ : ∃ z, z = h0.size := ⟨_, rfl⟩
  rw [← g12] at A12 st12
  have V12 := own_A.new A12 (own_n0 (by omega)) rfl rfl
  have pre13 : own_Go p e below (s₁.setTop (entryFrame m #[(.ref a1), (.ref an)] 3)) (T12.setTop (mkF m 21 #[.val (.ref a1), .val (.ref an), .val (.int (len + (11 : Int32)))] [(.ref b12), (.ref a1)])) := fun t k => pre11 t (st12 t k)
  have F_14 := F_bytes.ext E12
  have F_15 := F_separator.ext E12
  have F_16 := F_numberFrom.ext E12
  have Ex_17 := E1.ext E12
  have V_18 := Vn.ext E12
  have V_19 := Vb.ext E12
  have K_20 := (Keep.refl h0 [a1]).ext E12
  have ne_a1_b12 : a1 ≠ b12 := Nat.ne_of_lt (Nat.lt_of_lt_of_eq E1.lt g12.symm)
  have ne_an_b12 : an ≠ b12 := Nat.ne_of_lt (Nat.lt_of_lt_of_eq Vn.lt g12.symm)
  have ne_ab_b12 : ab ≠ b12 := Nat.ne_of_lt (Nat.lt_of_lt_of_eq Vb.lt g12.symm)
  have sz_b12 : h0.size ≤ b12 := Nat.le_trans (Keep.refl h0 [a1]).1 (Nat.le_of_eq g12.symm)
  have g_b12 : n0 ≤ b12 := Nat.le_trans Z0 sz_b12
  obtain ⟨T21, h21, X21, e21, W21, st21⟩ := putF X12 hx hZ hown (host := "") (Or.inl (hw _ (List.mem_of_getElem? (i := 14) rfl))) Via.refl e12 F_14 Ex_17 (Or.inl (hw _ (List.mem_of_getElem? (i := 15) rfl))) (hw _ (List.mem_of_getElem? (i := 6) rfl)) (ty := (.array .byte)) (by decide) rfl rfl (g := (mkF m 21 #[.val (.ref a1), .val (.ref an), .val (.int (len + (11 : Int32)))] [(.ref b12), (.ref a1)])) rfl rfl (hb hby d7_21)
  have N21 := Fr.snoc X21 N0 g1
  have pre22 : own_Go p e below (s₁.setTop (entryFrame m #[(.ref a1), (.ref an)] 3)) (T21.setTop (mkF m 24 #[.val (.ref a1), .val (.ref an), .val (.int (len + (11 : Int32)))] [])) := fun t k => pre13 t (st21 t k)
  have F_23 := F_14.same W21
  have F_24 := F_15.other W21 (Or.inr (slot_ne (Or.inr (hw _ (List.mem_of_getElem? (i := 17) rfl))) (Or.inl (hw _ (List.mem_of_getElem? (i := 15) rfl))) (by decide) (t := .byte) (by decide) (t' := (.array .byte)) (by decide)))
  have F_25 := F_16.other W21 (Or.inr (slot_ne (Or.inl (hw _ (List.mem_of_getElem? (i := 28) rfl))) (Or.inl (hw _ (List.mem_of_getElem? (i := 15) rfl))) (by decide) (t := .int) (by decide) (t' := (.array .byte)) (by decide)))
  have Ex_26 := Ex_17.wr W21
  have V_27 := V_18.other W21 (Ne.symm ne1)
  have V_28 := V_19.other W21 (Ne.symm ne2)
  have V_29 := V12.other W21 (Ne.symm ne_a1_b12)
  have K_30 := K_20.wr W21 (Or.inl (List.mem_of_getElem? (i := 0) rfl))
  have hin : len < len + (11 : Int32) := own_lt (by omega)
  have hle : len.toNatClampNeg ≤ (len + (11 : Int32)).toNatClampNeg := own_natle hl.1 (by omega)
  have pre31 : own_Go p e below (s₁.setTop (entryFrame m #[(.ref a1), (.ref an)] 3)) (T21.setTop (mkF m 27 #[.val (.ref a1), .val (.ref an), .val (.int (len + (11 : Int32)))] [(.ref a1), (.int (0 : Int32)), (.ref an)])) := fun t k => pre22 t (by
      show Steps p.tables e below (T21.setTop (mkF m 24 #[.val (.ref a1), .val (.ref an), .val (.int (len + (11 : Int32)))] [])) _
      refine XS.aloadN X21.here hx rfl (hb hby d7_24) rfl rfl ?_
      show Steps p.tables e below (T21.setTop (mkF m 25 #[.val (.ref a1), .val (.ref an), .val (.int (len + (11 : Int32)))] [(.ref an)])) _
      refine XS.iconst X21.here hx rfl (hb hby d7_25) ?_
      show Steps p.tables e below (T21.setTop (mkF m 26 #[.val (.ref a1), .val (.ref an), .val (.int (len + (11 : Int32)))] [(.int (0 : Int32)), (.ref an)])) _
      refine XS.aloadN X21.here hx rfl (hb hby d7_26) rfl rfl ?_
      exact k)
  obtain ⟨T32, X32, e32, st32⟩ := getF X21 hx hZ hown (host := "") (Or.inl (hw _ (List.mem_of_getElem? (i := 14) rfl))) Via.refl e21 F_23 (g := (mkF m 27 #[.val (.ref a1), .val (.ref an), .val (.int (len + (11 : Int32)))] [(.ref a1), (.int (0 : Int32)), (.ref an)])) rfl rfl (hb hby d7_27)
  have pre33 : own_Go p e below (s₁.setTop (entryFrame m #[(.ref a1), (.ref an)] 3)) (T32.setTop (mkF m 30 #[.val (.ref a1), .val (.ref an), .val (.int (len + (11 : Int32)))] [(.ref b12), (.int (0 : Int32)), (.ref an)])) := fun t k => pre31 t (st32 t k)
  have pre34 : own_Go p e below (s₁.setTop (entryFrame m #[(.ref a1), (.ref an)] 3)) (T32.setTop (mkF m 32 #[.val (.ref a1), .val (.ref an), .val (.int (len + (11 : Int32)))] [(.ref an), (.int (0 : Int32)), (.ref b12), (.int (0 : Int32)), (.ref an)])) := fun t k => pre33 t (by
      show Steps p.tables e below (T32.setTop (mkF m 30 #[.val (.ref a1), .val (.ref an), .val (.int (len + (11 : Int32)))] [(.ref b12), (.int (0 : Int32)), (.ref an)])) _
      refine XS.iconst X32.here hx rfl (hb hby d7_30) ?_
      show Steps p.tables e below (T32.setTop (mkF m 31 #[.val (.ref a1), .val (.ref an), .val (.int (len + (11 : Int32)))] [(.int (0 : Int32)), (.ref b12), (.int (0 : Int32)), (.ref an)])) _
      refine XS.aloadN X32.here hx rfl (hb hby d7_31) rfl rfl ?_
      exact k)
  obtain ⟨cl35, Ar35, ln35⟩ := own_A.len V_27
  have pre36 : own_Go p e below (s₁.setTop (entryFrame m #[(.ref a1), (.ref an)] 3)) (T32.setTop (mkF m 33 #[.val (.ref a1), .val (.ref an), .val (.int (len + (11 : Int32)))] [(.int len), (.int (0 : Int32)), (.ref b12), (.int (0 : Int32)), (.ref an)])) := fun t k => pre34 t (X32.arraylength hx (by rw [show T32.heap = h21 from e32]; exact Ar35.1) (State.isArrayOf_alike hZ.alike Ar35.2.1) (g := (mkF m 32 #[.val (.ref a1), .val (.ref an), .val (.int (len + (11 : Int32)))] [(.ref an), (.int (0 : Int32)), (.ref b12), (.int (0 : Int32)), (.ref an)])) rfl rfl (hb hby d7_32) t (by rw [ln35]; exact k))
  obtain ⟨T37, h37, L37, X37, e37, N37, K37, V37, st37⟩ := own_cp X32 hx hZ hown (hw _ (List.mem_of_getElem? (i := 23) rfl)) (hw _ (List.mem_of_getElem? (i := 26) rfl)) (hw _ (List.mem_of_getElem? (i := 24) rfl)) (hw _ (List.mem_of_getElem? (i := 25) rfl)) e32 V_27 V_29 ln0 (Nat.le_refl _) hle N21 g_b12 (g := (mkF m 33 #[.val (.ref a1), .val (.ref an), .val (.int (len + (11 : Int32)))] [(.int len), (.int (0 : Int32)), (.ref b12), (.int (0 : Int32)), (.ref an)])) rfl (by rw [hml]; rfl) rfl (hb hby d7_33) (by decide) (W := 0) (by show 2 * 0 + _ ≤ _; exact Nat.le_of_eq rfl) (by decide)
  have pre38 : own_Go p e below (s₁.setTop (entryFrame m #[(.ref a1), (.ref an)] 3)) (T37.setTop (mkF m 36 #[.val (.ref a1), .val (.ref an), .val (.int (len + (11 : Int32)))] [])) := fun t k => pre36 t (st37 t k)
  have F_39 := F_23.keep K37 (ninS ne_a1_b12 nin0)
  have F_40 := F_24.keep K37 (ninS ne_a1_b12 nin0)
  have F_41 := F_25.keep K37 (ninS ne_a1_b12 nin0)
  have Ex_42 := Ex_26.keep K37
  have V_43 := V_27.keep K37 (ninS ne_an_b12 nin0)
  have V_44 := V_28.keep K37 (ninS ne_ab_b12 nin0)
  have K_45 := K_30.trans K37 (allS (Or.inr sz_b12) all0)
  have pre46 : own_Go p e below (s₁.setTop (entryFrame m #[(.ref a1), (.ref an)] 3)) (T37.setTop (mkF m 37 #[.val (.ref a1), .val (.ref an), .val (.int (len + (11 : Int32)))] [(.ref a1)])) := fun t k => pre38 t (by
      show Steps p.tables e below (T37.setTop (mkF m 36 #[.val (.ref a1), .val (.ref an), .val (.int (len + (11 : Int32)))] [])) _
      refine XS.aloadN X37.here hx rfl (hb hby d7_36) rfl rfl ?_
      exact k)
  obtain ⟨T47, X47, e47, st47⟩ := getF X37 hx hZ hown (host := "") (Or.inl (hw _ (List.mem_of_getElem? (i := 14) rfl))) Via.refl e37 F_39 (g := (mkF m 37 #[.val (.ref a1), .val (.ref an), .val (.int (len + (11 : Int32)))] [(.ref a1)])) rfl rfl (hb hby d7_37)
  have pre48 : own_Go p e below (s₁.setTop (entryFrame m #[(.ref a1), (.ref an)] 3)) (T47.setTop (mkF m 40 #[.val (.ref a1), .val (.ref an), .val (.int (len + (11 : Int32)))] [(.ref b12)])) := fun t k => pre46 t (st47 t k)
  have pre49 : own_Go p e below (s₁.setTop (entryFrame m #[(.ref a1), (.ref an)] 3)) (T47.setTop (mkF m 41 #[.val (.ref a1), .val (.ref an), .val (.int (len + (11 : Int32)))] [(.ref an), (.ref b12)])) := fun t k => pre48 t (by
      show Steps p.tables e below (T47.setTop (mkF m 40 #[.val (.ref a1), .val (.ref an), .val (.int (len + (11 : Int32)))] [(.ref b12)])) _
      refine XS.aloadN X47.here hx rfl (hb hby d7_40) rfl rfl ?_
      exact k)
  obtain ⟨cl50, Ar50, ln50⟩ := own_A.len V_43
  have pre51 : own_Go p e below (s₁.setTop (entryFrame m #[(.ref a1), (.ref an)] 3)) (T47.setTop (mkF m 42 #[.val (.ref a1), .val (.ref an), .val (.int (len + (11 : Int32)))] [(.int len), (.ref b12)])) := fun t k => pre49 t (X47.arraylength hx (by rw [show T47.heap = h37 from e47]; exact Ar50.1) (State.isArrayOf_alike hZ.alike Ar50.2.1) (g := (mkF m 41 #[.val (.ref a1), .val (.ref an), .val (.int (len + (11 : Int32)))] [(.ref an), (.ref b12)])) rfl rfl (hb hby d7_41) t (by rw [ln50]; exact k))
  have pre52 : own_Go p e below (s₁.setTop (entryFrame m #[(.ref a1), (.ref an)] 3)) (T47.setTop (mkF m 43 #[.val (.ref a1), .val (.ref an), .val (.int (len + (11 : Int32)))] [(.ref a1), (.int len), (.ref b12)])) := fun t k => pre51 t (by
      show Steps p.tables e below (T47.setTop (mkF m 42 #[.val (.ref a1), .val (.ref an), .val (.int (len + (11 : Int32)))] [(.int len), (.ref b12)])) _
      refine XS.aloadN X47.here hx rfl (hb hby d7_42) rfl rfl ?_
      exact k)
  obtain ⟨T53, X53, e53, st53⟩ := getF X47 hx hZ hown (host := "") (Or.inl (hw _ (List.mem_of_getElem? (i := 16) rfl))) Via.refl e47 F_40 (g := (mkF m 43 #[.val (.ref a1), .val (.ref an), .val (.int (len + (11 : Int32)))] [(.ref a1), (.int len), (.ref b12)])) rfl rfl (hb hby d7_43)
  have pre54 : own_Go p e below (s₁.setTop (entryFrame m #[(.ref a1), (.ref an)] 3)) (T53.setTop (mkF m 46 #[.val (.ref a1), .val (.ref an), .val (.int (len + (11 : Int32)))] [(.int sb), (.int len), (.ref b12)])) := fun t k => pre52 t (st53 t k)
  obtain ⟨cl55, Ar55, hin55, -⟩ := own_A.at V37 (j := len) ln0 hin
  obtain ⟨T55, h55, X55, e55, W55, st55⟩ := stB X53 hx hZ e53 Ar55 (j := len) hin55 (g := (mkF m 46 #[.val (.ref a1), .val (.ref an), .val (.int (len + (11 : Int32)))] [(.int sb), (.int len), (.ref b12)])) rfl rfl (hb hby d7_46)
  have N55 := Fr.snoc X55 N37 g_b12
  have pre56 : own_Go p e below (s₁.setTop (entryFrame m #[(.ref a1), (.ref an)] 3)) (T55.setTop (mkF m 47 #[.val (.ref a1), .val (.ref an), .val (.int (len + (11 : Int32)))] [])) := fun t k => pre54 t (st55 t k)
  have V_57 := own_A.set V37 W55 (fits_nar_byte _)
  have F_58 := F_39.other W55 (Or.inl ne_a1_b12)
  have F_59 := F_40.other W55 (Or.inl ne_a1_b12)
  have F_60 := F_41.other W55 (Or.inl ne_a1_b12)
  have Ex_61 := Ex_42.wr W55
  have V_62 := V_43.other W55 ne_an_b12
  have V_63 := V_44.other W55 ne_ab_b12
  have K_64 := K_45.wr W55 (Or.inr sz_b12)
  have pre65 : own_Go p e below (s₁.setTop (entryFrame m #[(.ref a1), (.ref an)] 3)) (T55.setTop (mkF m 49 #[.val (.ref a1), .val (.ref an), .val (.int (len + (11 : Int32)))] [(.ref an), (.ref a1)])) := fun t k => pre56 t (by
      show Steps p.tables e below (T55.setTop (mkF m 47 #[.val (.ref a1), .val (.ref an), .val (.int (len + (11 : Int32)))] [])) _
      refine XS.aloadN X55.here hx rfl (hb hby d7_47) rfl rfl ?_
      show Steps p.tables e below (T55.setTop (mkF m 48 #[.val (.ref a1), .val (.ref an), .val (.int (len + (11 : Int32)))] [(.ref a1)])) _
      refine XS.aloadN X55.here hx rfl (hb hby d7_48) rfl rfl ?_
      exact k)
  obtain ⟨cl66, Ar66, ln66⟩ := own_A.len V_62
  have pre67 : own_Go p e below (s₁.setTop (entryFrame m #[(.ref a1), (.ref an)] 3)) (T55.setTop (mkF m 50 #[.val (.ref a1), .val (.ref an), .val (.int (len + (11 : Int32)))] [(.int len), (.ref a1)])) := fun t k => pre65 t (X55.arraylength hx (by rw [show T55.heap = h55 from e55]; exact Ar66.1) (State.isArrayOf_alike hZ.alike Ar66.2.1) (g := (mkF m 49 #[.val (.ref a1), .val (.ref an), .val (.int (len + (11 : Int32)))] [(.ref an), (.ref a1)])) rfl rfl (hb hby d7_49) t (by rw [ln66]; exact k))
  have pre68 : own_Go p e below (s₁.setTop (entryFrame m #[(.ref a1), (.ref an)] 3)) (T55.setTop (mkF m 52 #[.val (.ref a1), .val (.ref an), .val (.int (len + (11 : Int32)))] [(.int (len + (1 : Int32))), (.ref a1)])) := fun t k => pre67 t (by
      show Steps p.tables e below (T55.setTop (mkF m 50 #[.val (.ref a1), .val (.ref an), .val (.int (len + (11 : Int32)))] [(.int len), (.ref a1)])) _
      refine XS.iconst X55.here hx rfl (hb hby d7_50) ?_
      show Steps p.tables e below (T55.setTop (mkF m 51 #[.val (.ref a1), .val (.ref an), .val (.int (len + (11 : Int32)))] [(.int (1 : Int32)), (.int len), (.ref a1)])) _
      refine XS.iadd X55.here hx rfl (hb hby d7_51) rfl ?_
      exact k)
  obtain ⟨T69, h69, X69, e69, W69, st69⟩ := putF X55 hx hZ hown (host := "") (Or.inl (hw _ (List.mem_of_getElem? (i := 27) rfl))) Via.refl e55 F_60 Ex_61 (Or.inl (hw _ (List.mem_of_getElem? (i := 28) rfl))) (hw _ (List.mem_of_getElem? (i := 6) rfl)) (ty := .int) (by decide) rfl rfl (g := (mkF m 52 #[.val (.ref a1), .val (.ref an), .val (.int (len + (11 : Int32)))] [(.int (len + (1 : Int32))), (.ref a1)])) rfl rfl (hb hby d7_52)
  have N69 := Fr.snoc X69 N55 g1
  have pre70 : own_Go p e below (s₁.setTop (entryFrame m #[(.ref a1), (.ref an)] 3)) (T69.setTop (mkF m 55 #[.val (.ref a1), .val (.ref an), .val (.int (len + (11 : Int32)))] [])) := fun t k => pre68 t (st69 t k)
  have F_71 := F_58.other W69 (Or.inr (slot_ne (Or.inl (hw _ (List.mem_of_getElem? (i := 15) rfl))) (Or.inl (hw _ (List.mem_of_getElem? (i := 28) rfl))) (by decide) (t := (.array .byte)) (by decide) (t' := .int) (by decide)))
  have F_72 := F_59.other W69 (Or.inr (slot_ne (Or.inr (hw _ (List.mem_of_getElem? (i := 17) rfl))) (Or.inl (hw _ (List.mem_of_getElem? (i := 28) rfl))) (by decide) (t := .byte) (by decide) (t' := .int) (by decide)))
  have F_73 := F_60.same W69
  have Ex_74 := Ex_61.wr W69
  have V_75 := V_62.other W69 (Ne.symm ne1)
  have V_76 := V_63.other W69 (Ne.symm ne2)
  have V_77 := V_57.other W69 (Ne.symm ne_a1_b12)
  have K_78 := K_64.wr W69 (Or.inl (List.mem_of_getElem? (i := 0) rfl))
  have Vfin := V_77
  rw [hsb] at Vfin
  obtain ⟨fs, hr, hrun, hended, hW, hsame⟩ := X69.leave (v := none) (fun _ => rfl)
  refine ⟨_, _, pre70 _ ?_, hrun, hended, _, _, rfl, ?_, ⟨_, rfl⟩, hW, hsame.mono (by decide) (by decide)⟩
  · show Steps p.tables e below (T69.setTop (mkF m 55 #[.val (.ref a1), .val (.ref an), .val (.int (len + (11 : Int32)))] [])) _
    exact X69.returnOut hx Bd.returns (hb hby d7_55) hr
  · show Q7 Z a1 an ab sb len nb fn fb h0 n0 _ T69.heap _
    rw [e69]
    exact ⟨rfl, N69, K_78, b12, sz_b12, F_71, F_72, F_73, Vfin⟩
def Q4 (Z : State) (ab : Addr) (h0 : Heap) (n0 : Nat) (v : Option Value) (h : Heap) (L : List Loc) : Prop := v = some (.ref ab) ∧ Fr n0 L ∧ h = h0
theorem d4_0 : decode prog_17_method_4_code 0 = .ok (.aload_n 0, 1) := by decide +kernel
theorem d4_1 : decode prog_17_method_4_code 1 = .ok (.getfield 7, 3) := by decide +kernel
theorem d4_4 : decode prog_17_method_4_code 4 = .ok (.areturn, 1) := by decide +kernel
theorem pn_4 : plainName "com/example/gyre/gyre/NodeLabel" = true := by first | (simp [plainName, overriddenIn]; done) | decide +kernel
theorem ef_4 (m : MethodId) (x0 : Addr) : entryFrame m #[(.ref x0)] 1 = mkF m 0 #[.val (.ref x0)] [] := by first | (simp [entryFrame, mkF, argsToLocals, Value.category]; done) | rfl
set_option maxRecDepth 65536 in
set_option maxHeartbeats 40000000 in
theorem rm4 (l : Launch) (Z : State) (a0 : Array Value) (hw : ∀ d ∈ tables_1, d.before a0 Z = true) (ws : List Jvm.Cond) (a1 ab : Addr) (h0 : Heap) (n0 : Nat) (Z0 : n0 ≤ h0.size) (F_bytes : Fld Z h0 a1 "com/example/gyre/gyre/NodeLabel" "bytes" "[B" (.ref ab)) :
    MetFree l (⟨"com/example/gyre/gyre/NodeLabel", "bytes", "()[B"⟩ : MethodName) (head1 (Jvm.Cond.code (⟨"com/example/gyre/gyre/NodeLabel", "bytes", "()[B"⟩ : MethodName) prog_17_method_4_code 1 (some (.array .byte)) :: ws) ({ frames := 0, cells := 0, slots := 0, locals := 0 } : Room)) (fun a U => a = #[(.ref a1)] ∧ Z.Warmed39 U.vm ∧ U.heap = h0) (fun _ _ _ _ _ => True) (fun _ U o U' => ∃ v L, o = .returned v ∧ Q4 Z ab h0 n0 v U'.heap L ∧ FrameEnd U o U' L ({ frames := 0, cells := 0, slots := 0, locals := 0 } : Room).cells ({ frames := 0, cells := 0, slots := 0, locals := 0 } : Room).slots) := by
  refine MetFree.of_bodySF (plainFor_of_name pn_4) hisR ?_
  intro p e s m args below meth c s₁ Bd hml0 hP hK
  obtain ⟨rfl, hZ, hh⟩ := hP
  have hx := Bd.exec
  have hby := Bd.bytes
  have hml : c.maxLocals = 1 := hml0
  have hown : s.vm.findClass "com/example/gyre/gyre/NodeLabel" = some m.cls := findClass_of_methodNamed Bd.named
  have hnm := (name_of_methodNamed Bd.named Bd.method).1
  have X0 : Stand p l e ({ frames := 0, cells := 0, slots := 0, locals := 0 } : Room) s m #[(.ref a1)] below meth c s₁ [] 0 0 := Stand.of_body Bd
  have e0 : s₁.heap = h0 := by rw [← hh, Bd.state]; rfl
  have N0 := Fr.nil n0
  have pre0 : own_Go p e below (s₁.setTop (entryFrame m #[(.ref a1)] 1)) (s₁.setTop (mkF m 0 #[.val (.ref a1)] [])) := fun t k => castTop (ef_4 m a1) k
  have pre1 : own_Go p e below (s₁.setTop (entryFrame m #[(.ref a1)] 1)) (s₁.setTop (mkF m 1 #[.val (.ref a1)] [(.ref a1)])) := fun t k => pre0 t (by
      show Steps p.tables e below (s₁.setTop (mkF m 0 #[.val (.ref a1)] [])) _
      refine XS.aloadN X0.here hx rfl (hb hby d4_0) rfl rfl ?_
      exact k)
  obtain ⟨T2, X2, e2, st2⟩ := getF X0 hx hZ hown (host := "") (Or.inl (hw _ (List.mem_of_getElem? (i := 14) rfl))) Via.refl e0 F_bytes (g := (mkF m 1 #[.val (.ref a1)] [(.ref a1)])) rfl rfl (hb hby d4_1)
  have pre3 : own_Go p e below (s₁.setTop (entryFrame m #[(.ref a1)] 1)) (T2.setTop (mkF m 4 #[.val (.ref a1)] [(.ref ab)])) := fun t k => pre1 t (st2 t k)
  obtain ⟨fs, hr, hrun, hended, hW, hsame⟩ := X2.leave (v := some (.ref ab)) (fun h => by rw [Bd.returns] at h; cases h)
  refine ⟨_, _, pre3 _ ?_, hrun, hended, _, _, rfl, ?_, ⟨_, rfl⟩, hW, hsame.mono (by decide) (by decide)⟩
  · show Steps p.tables e below (T2.setTop (mkF m 4 #[.val (.ref a1)] [(.ref ab)])) _
    jvm_step X2.here [X2.here.top, hx, (hb hby d4_4), X2.method', Bd.returns, Value.isRef, FieldType.isReference]
    first | (intro acts; rw [hr _ acts rfl rfl rfl]) | rw [hr _ _ rfl rfl rfl]
    exact Steps.refl _
  · show Q4 Z ab h0 n0 _ T2.heap _
    rw [e2]
    exact ⟨rfl, N0, rfl⟩
def Q5 (Z : State) (h0 : Heap) (n0 : Nat) (v : Option Value) (h : Heap) (L : List Loc) : Prop := v = some (.int (1 : Int32)) ∧ Fr n0 L ∧ h = h0
theorem d5_0 : decode method_3_code 0 = .ok (.iload_n 2, 1) := by decide +kernel
theorem d5_1 : decode method_3_code 1 = .ok (.iconst 1, 1) := by decide +kernel
theorem d5_2 : decode method_3_code 2 = .ok (.if_icmp .lt 12, 3) := by decide +kernel
theorem d5_5 : decode method_3_code 5 = .ok (.aload_n 0, 1) := by decide +kernel
theorem d5_6 : decode method_3_code 6 = .ok (.iconst 0, 1) := by decide +kernel
theorem d5_7 : decode method_3_code 7 = .ok (.baload, 1) := by decide +kernel
theorem d5_8 : decode method_3_code 8 = .ok (.aload_n 1, 1) := by decide +kernel
theorem d5_9 : decode method_3_code 9 = .ok (.iconst 0, 1) := by decide +kernel
theorem d5_10 : decode method_3_code 10 = .ok (.baload, 1) := by decide +kernel
theorem d5_11 : decode method_3_code 11 = .ok (.if_icmp .ne 35, 3) := by decide +kernel
theorem d5_14 : decode method_3_code 14 = .ok (.iload_n 2, 1) := by decide +kernel
theorem d5_15 : decode method_3_code 15 = .ok (.iconst 2, 1) := by decide +kernel
theorem d5_16 : decode method_3_code 16 = .ok (.if_icmp .lt 12, 3) := by decide +kernel
theorem d5_19 : decode method_3_code 19 = .ok (.aload_n 0, 1) := by decide +kernel
theorem d5_20 : decode method_3_code 20 = .ok (.iconst 1, 1) := by decide +kernel
theorem d5_21 : decode method_3_code 21 = .ok (.baload, 1) := by decide +kernel
theorem d5_22 : decode method_3_code 22 = .ok (.aload_n 1, 1) := by decide +kernel
theorem d5_23 : decode method_3_code 23 = .ok (.iconst 1, 1) := by decide +kernel
theorem d5_24 : decode method_3_code 24 = .ok (.baload, 1) := by decide +kernel
theorem d5_25 : decode method_3_code 25 = .ok (.if_icmp .ne 21, 3) := by decide +kernel
theorem d5_28 : decode method_3_code 28 = .ok (.iload_n 2, 1) := by decide +kernel
theorem d5_29 : decode method_3_code 29 = .ok (.iconst 3, 1) := by decide +kernel
theorem d5_30 : decode method_3_code 30 = .ok (.if_icmp .lt 12, 3) := by decide +kernel
theorem d5_33 : decode method_3_code 33 = .ok (.aload_n 0, 1) := by decide +kernel
theorem d5_34 : decode method_3_code 34 = .ok (.iconst 2, 1) := by decide +kernel
theorem d5_35 : decode method_3_code 35 = .ok (.baload, 1) := by decide +kernel
theorem d5_36 : decode method_3_code 36 = .ok (.aload_n 1, 1) := by decide +kernel
theorem d5_37 : decode method_3_code 37 = .ok (.iconst 2, 1) := by decide +kernel
theorem d5_38 : decode method_3_code 38 = .ok (.baload, 1) := by decide +kernel
theorem d5_39 : decode method_3_code 39 = .ok (.if_icmp .ne 7, 3) := by decide +kernel
theorem d5_42 : decode method_3_code 42 = .ok (.iconst 1, 1) := by decide +kernel
theorem d5_43 : decode method_3_code 43 = .ok (.goto 4, 3) := by decide +kernel
theorem d5_46 : decode method_3_code 46 = .ok (.iconst 0, 1) := by decide +kernel
theorem d5_47 : decode method_3_code 47 = .ok (.ireturn, 1) := by decide +kernel
theorem pn_5 : plainName "com/example/gyre/gyre/NodeLabelStartNodePinLaw" = true := by first | (simp [plainName, overriddenIn]; done) | decide +kernel
theorem ef_5 (m : MethodId) (x0 : Addr) (x1 : Addr) (x2 : Int32) : entryFrame m #[(.ref x0), (.ref x1), (.int x2)] 3 = mkF m 0 #[.val (.ref x0), .val (.ref x1), .val (.int x2)] [] := by first | (simp [entryFrame, mkF, argsToLocals, Value.category]; done) | rfl
set_option maxRecDepth 65536 in
set_option maxHeartbeats 40000000 in
theorem rm5 (l : Launch) (Z : State) (a0 : Array Value) (hw : ∀ d ∈ tables_1, d.before a0 Z = true) (ws : List Jvm.Cond) (aa an : Addr) (p3 na : Int32) (fa fn : Nat → Int32) (h0 : Heap) (n0 : Nat) (Z0 : n0 ≤ h0.size) (Va : own_A Z h0 aa .byte na fa) (Vn : own_A Z h0 an .byte p3 fn) (hna : p3.toInt ≤ na.toInt) (heq : ∀ i, i < p3.toNatClampNeg → fa i = fn i) :
    MetFree l (⟨"com/example/gyre/gyre/NodeLabelStartNodePinLaw", "prefix", "([B[BI)Z"⟩ : MethodName) (head1 (Jvm.Cond.code (⟨"com/example/gyre/gyre/NodeLabelStartNodePinLaw", "prefix", "([B[BI)Z"⟩ : MethodName) method_3_code 3 (some .boolean) :: ws) ({ frames := 0, cells := 0, slots := 0, locals := 0 } : Room)) (fun a U => a = #[(.ref aa), (.ref an), (.int p3)] ∧ Z.Warmed39 U.vm ∧ U.heap = h0) (fun _ _ _ _ _ => True) (fun _ U o U' => ∃ v L, o = .returned v ∧ Q5 Z  h0 n0 v U'.heap L ∧ FrameEnd U o U' L ({ frames := 0, cells := 0, slots := 0, locals := 0 } : Room).cells ({ frames := 0, cells := 0, slots := 0, locals := 0 } : Room).slots) := by
  refine MetFree.of_bodySF (plainFor_of_name pn_5) hisR ?_
  intro p e s m args below meth c s₁ Bd hml0 hP hK
  obtain ⟨rfl, hZ, hh⟩ := hP
  have hx := Bd.exec
  have hby := Bd.bytes
  have hml : c.maxLocals = 3 := hml0
  have hown : s.vm.findClass "com/example/gyre/gyre/NodeLabelStartNodePinLaw" = some m.cls := findClass_of_methodNamed Bd.named
  have hnm := (name_of_methodNamed Bd.named Bd.method).1
  have X0 : Stand p l e ({ frames := 0, cells := 0, slots := 0, locals := 0 } : Room) s m #[(.ref aa), (.ref an), (.int p3)] below meth c s₁ [] 0 0 := Stand.of_body Bd
  have e0 : s₁.heap = h0 := by rw [← hh, Bd.state]; rfl
  have N0 := Fr.nil n0
  have pre0 : own_Go p e below (s₁.setTop (entryFrame m #[(.ref aa), (.ref an), (.int p3)] 3)) (s₁.setTop (mkF m 0 #[.val (.ref aa), .val (.ref an), .val (.int p3)] [])) := fun t k => castTop (ef_5 m aa an p3) k
  have pre1 : own_Go p e below (s₁.setTop (entryFrame m #[(.ref aa), (.ref an), (.int p3)] 3)) (s₁.setTop (mkF m 2 #[.val (.ref aa), .val (.ref an), .val (.int p3)] [(.int (1 : Int32)), (.int p3)])) := fun t k => pre0 t (by
      show Steps p.tables e below (s₁.setTop (mkF m 0 #[.val (.ref aa), .val (.ref an), .val (.int p3)] [])) _
      refine XS.iloadN X0.here hx rfl (hb hby d5_0) rfl ?_
      show Steps p.tables e below (s₁.setTop (mkF m 1 #[.val (.ref aa), .val (.ref an), .val (.int p3)] [(.int p3)])) _
      refine XS.iconst X0.here hx rfl (hb hby d5_1) ?_
      exact k)
  by_cases c2_2 : p3 < (1 : Int32)
  · skip
    have pre3 : own_Go p e below (s₁.setTop (entryFrame m #[(.ref aa), (.ref an), (.int p3)] 3)) (s₁.setTop (mkF m 16 #[.val (.ref aa), .val (.ref an), .val (.int p3)] [(.int (2 : Int32)), (.int p3)])) := fun t k => pre1 t (by
        show Steps p.tables e below (s₁.setTop (mkF m 2 #[.val (.ref aa), .val (.ref an), .val (.int p3)] [(.int (1 : Int32)), (.int p3)])) _
        refine XS.icmpYes X0.here hx rfl (pc0 := 2) (pc' := 14) rfl (hb hby d5_2) rfl (XT.ii_lt_t c2_2) (by decide) (by decide) ?_
        show Steps p.tables e below (s₁.setTop (mkF m 14 #[.val (.ref aa), .val (.ref an), .val (.int p3)] [])) _
        refine XS.iloadN X0.here hx rfl (hb hby d5_14) rfl ?_
        show Steps p.tables e below (s₁.setTop (mkF m 15 #[.val (.ref aa), .val (.ref an), .val (.int p3)] [(.int p3)])) _
        refine XS.iconst X0.here hx rfl (hb hby d5_15) ?_
        exact k)
    by_cases c16_4 : p3 < (2 : Int32)
    · skip
      have pre5 : own_Go p e below (s₁.setTop (entryFrame m #[(.ref aa), (.ref an), (.int p3)] 3)) (s₁.setTop (mkF m 30 #[.val (.ref aa), .val (.ref an), .val (.int p3)] [(.int (3 : Int32)), (.int p3)])) := fun t k => pre3 t (by
          show Steps p.tables e below (s₁.setTop (mkF m 16 #[.val (.ref aa), .val (.ref an), .val (.int p3)] [(.int (2 : Int32)), (.int p3)])) _
          refine XS.icmpYes X0.here hx rfl (pc0 := 16) (pc' := 28) rfl (hb hby d5_16) rfl (XT.ii_lt_t c16_4) (by decide) (by decide) ?_
          show Steps p.tables e below (s₁.setTop (mkF m 28 #[.val (.ref aa), .val (.ref an), .val (.int p3)] [])) _
          refine XS.iloadN X0.here hx rfl (hb hby d5_28) rfl ?_
          show Steps p.tables e below (s₁.setTop (mkF m 29 #[.val (.ref aa), .val (.ref an), .val (.int p3)] [(.int p3)])) _
          refine XS.iconst X0.here hx rfl (hb hby d5_29) ?_
          exact k)
      by_cases c30_6 : p3 < (3 : Int32)
      · skip
        have pre7 : own_Go p e below (s₁.setTop (entryFrame m #[(.ref aa), (.ref an), (.int p3)] 3)) (s₁.setTop (mkF m 47 #[.val (.ref aa), .val (.ref an), .val (.int p3)] [(.int (1 : Int32))])) := fun t k => pre5 t (by
            show Steps p.tables e below (s₁.setTop (mkF m 30 #[.val (.ref aa), .val (.ref an), .val (.int p3)] [(.int (3 : Int32)), (.int p3)])) _
            refine XS.icmpYes X0.here hx rfl (pc0 := 30) (pc' := 42) rfl (hb hby d5_30) rfl (XT.ii_lt_t c30_6) (by decide) (by decide) ?_
            show Steps p.tables e below (s₁.setTop (mkF m 42 #[.val (.ref aa), .val (.ref an), .val (.int p3)] [])) _
            refine XS.iconst X0.here hx rfl (hb hby d5_42) ?_
            show Steps p.tables e below (s₁.setTop (mkF m 43 #[.val (.ref aa), .val (.ref an), .val (.int p3)] [(.int (1 : Int32))])) _
            refine XS.goto X0.here hx rfl (pc0 := 43) (pc' := 47) rfl (hb hby d5_43) (by decide) (by decide) ?_
            exact k)
        obtain ⟨fs, hr, hrun, hended, hW, hsame⟩ := X0.leave (v := some (.int (1 : Int32))) (fun h => by rw [Bd.returns] at h; cases h)
        refine ⟨_, _, pre7 _ ?_, hrun, hended, _, _, rfl, ?_, ⟨_, rfl⟩, hW, hsame.mono (by decide) (by decide)⟩
        · show Steps p.tables e below (s₁.setTop (mkF m 47 #[.val (.ref aa), .val (.ref an), .val (.int p3)] [(.int (1 : Int32))])) _
          exact retN X0 hx (t := .boolean) Bd.returns (by simp) (hb hby d5_47) hr
        · show Q5 Z  h0 n0 _ s₁.heap _
          rw [e0]
          exact ⟨rfl, N0, rfl⟩
      · skip
        have pre8 : own_Go p e below (s₁.setTop (entryFrame m #[(.ref aa), (.ref an), (.int p3)] 3)) (s₁.setTop (mkF m 35 #[.val (.ref aa), .val (.ref an), .val (.int p3)] [(.int (2 : Int32)), (.ref aa)])) := fun t k => pre5 t (by
            show Steps p.tables e below (s₁.setTop (mkF m 30 #[.val (.ref aa), .val (.ref an), .val (.int p3)] [(.int (3 : Int32)), (.int p3)])) _
            refine XS.icmpNo X0.here hx rfl (hb hby d5_30) rfl (XT.ii_lt_f c30_6) ?_
            show Steps p.tables e below (s₁.setTop (mkF m 33 #[.val (.ref aa), .val (.ref an), .val (.int p3)] [])) _
            refine XS.aloadN X0.here hx rfl (hb hby d5_33) rfl rfl ?_
            show Steps p.tables e below (s₁.setTop (mkF m 34 #[.val (.ref aa), .val (.ref an), .val (.int p3)] [(.ref aa)])) _
            refine XS.iconst X0.here hx rfl (hb hby d5_34) ?_
            exact k)
        obtain ⟨cl9, Ar9, hin9, hv9⟩ := own_A.at Va (j := (2 : Int32)) (by decide) (own_lt (Int.lt_of_lt_of_le (own_k (k := (2 : Int32)) (by decide) (by decide) c30_6).1 hna))
        have pre10 : own_Go p e below (s₁.setTop (entryFrame m #[(.ref aa), (.ref an), (.int p3)] 3)) (s₁.setTop (mkF m 36 #[.val (.ref aa), .val (.ref an), .val (.int p3)] [(.int (fa ((2 : Int32)).toNatClampNeg))])) := fun t k => pre8 t (X0.baloadBytes hx (j := (2 : Int32)) (v := .int (fa ((2 : Int32)).toNatClampNeg)) (by rw [show s₁.heap = h0 from e0]; exact Ar9.1) (State.isArrayOf_alike hZ.alike Ar9.2.1) Ar9.2.2 hin9 hv9 (g := (mkF m 35 #[.val (.ref aa), .val (.ref an), .val (.int p3)] [(.int (2 : Int32)), (.ref aa)])) rfl rfl (hb hby d5_35) t k)
        have pre11 : own_Go p e below (s₁.setTop (entryFrame m #[(.ref aa), (.ref an), (.int p3)] 3)) (s₁.setTop (mkF m 38 #[.val (.ref aa), .val (.ref an), .val (.int p3)] [(.int (2 : Int32)), (.ref an), (.int (fa ((2 : Int32)).toNatClampNeg))])) := fun t k => pre10 t (by
            show Steps p.tables e below (s₁.setTop (mkF m 36 #[.val (.ref aa), .val (.ref an), .val (.int p3)] [(.int (fa ((2 : Int32)).toNatClampNeg))])) _
            refine XS.aloadN X0.here hx rfl (hb hby d5_36) rfl rfl ?_
            show Steps p.tables e below (s₁.setTop (mkF m 37 #[.val (.ref aa), .val (.ref an), .val (.int p3)] [(.ref an), (.int (fa ((2 : Int32)).toNatClampNeg))])) _
            refine XS.iconst X0.here hx rfl (hb hby d5_37) ?_
            exact k)
        obtain ⟨cl12, Ar12, hin12, hv12⟩ := own_A.at Vn (j := (2 : Int32)) (by decide) (own_k (k := (2 : Int32)) (by decide) (by decide) c30_6).2.1
        have pre13 : own_Go p e below (s₁.setTop (entryFrame m #[(.ref aa), (.ref an), (.int p3)] 3)) (s₁.setTop (mkF m 39 #[.val (.ref aa), .val (.ref an), .val (.int p3)] [(.int (fn ((2 : Int32)).toNatClampNeg)), (.int (fa ((2 : Int32)).toNatClampNeg))])) := fun t k => pre11 t (X0.baloadBytes hx (j := (2 : Int32)) (v := .int (fn ((2 : Int32)).toNatClampNeg)) (by rw [show s₁.heap = h0 from e0]; exact Ar12.1) (State.isArrayOf_alike hZ.alike Ar12.2.1) Ar12.2.2 hin12 hv12 (g := (mkF m 38 #[.val (.ref aa), .val (.ref an), .val (.int p3)] [(.int (2 : Int32)), (.ref an), (.int (fa ((2 : Int32)).toNatClampNeg))])) rfl rfl (hb hby d5_38) t k)
        have pre14 : own_Go p e below (s₁.setTop (entryFrame m #[(.ref aa), (.ref an), (.int p3)] 3)) (s₁.setTop (mkF m 47 #[.val (.ref aa), .val (.ref an), .val (.int p3)] [(.int (1 : Int32))])) := fun t k => pre13 t (by
            show Steps p.tables e below (s₁.setTop (mkF m 39 #[.val (.ref aa), .val (.ref an), .val (.int p3)] [(.int (fn ((2 : Int32)).toNatClampNeg)), (.int (fa ((2 : Int32)).toNatClampNeg))])) _
            refine XS.icmpNo X0.here hx rfl (hb hby d5_39) rfl (XT.ii_ne_f (heq _ (own_k (k := (2 : Int32)) (by decide) (by decide) c30_6).2.2)) ?_
            show Steps p.tables e below (s₁.setTop (mkF m 42 #[.val (.ref aa), .val (.ref an), .val (.int p3)] [])) _
            refine XS.iconst X0.here hx rfl (hb hby d5_42) ?_
            show Steps p.tables e below (s₁.setTop (mkF m 43 #[.val (.ref aa), .val (.ref an), .val (.int p3)] [(.int (1 : Int32))])) _
            refine XS.goto X0.here hx rfl (pc0 := 43) (pc' := 47) rfl (hb hby d5_43) (by decide) (by decide) ?_
            exact k)
        obtain ⟨fs, hr, hrun, hended, hW, hsame⟩ := X0.leave (v := some (.int (1 : Int32))) (fun h => by rw [Bd.returns] at h; cases h)
        refine ⟨_, _, pre14 _ ?_, hrun, hended, _, _, rfl, ?_, ⟨_, rfl⟩, hW, hsame.mono (by decide) (by decide)⟩
        · show Steps p.tables e below (s₁.setTop (mkF m 47 #[.val (.ref aa), .val (.ref an), .val (.int p3)] [(.int (1 : Int32))])) _
          exact retN X0 hx (t := .boolean) Bd.returns (by simp) (hb hby d5_47) hr
        · show Q5 Z  h0 n0 _ s₁.heap _
          rw [e0]
          exact ⟨rfl, N0, rfl⟩
    · skip
      have pre15 : own_Go p e below (s₁.setTop (entryFrame m #[(.ref aa), (.ref an), (.int p3)] 3)) (s₁.setTop (mkF m 21 #[.val (.ref aa), .val (.ref an), .val (.int p3)] [(.int (1 : Int32)), (.ref aa)])) := fun t k => pre3 t (by
          show Steps p.tables e below (s₁.setTop (mkF m 16 #[.val (.ref aa), .val (.ref an), .val (.int p3)] [(.int (2 : Int32)), (.int p3)])) _
          refine XS.icmpNo X0.here hx rfl (hb hby d5_16) rfl (XT.ii_lt_f c16_4) ?_
          show Steps p.tables e below (s₁.setTop (mkF m 19 #[.val (.ref aa), .val (.ref an), .val (.int p3)] [])) _
          refine XS.aloadN X0.here hx rfl (hb hby d5_19) rfl rfl ?_
          show Steps p.tables e below (s₁.setTop (mkF m 20 #[.val (.ref aa), .val (.ref an), .val (.int p3)] [(.ref aa)])) _
          refine XS.iconst X0.here hx rfl (hb hby d5_20) ?_
          exact k)
      obtain ⟨cl16, Ar16, hin16, hv16⟩ := own_A.at Va (j := (1 : Int32)) (by decide) (own_lt (Int.lt_of_lt_of_le (own_k (k := (1 : Int32)) (by decide) (by decide) c16_4).1 hna))
      have pre17 : own_Go p e below (s₁.setTop (entryFrame m #[(.ref aa), (.ref an), (.int p3)] 3)) (s₁.setTop (mkF m 22 #[.val (.ref aa), .val (.ref an), .val (.int p3)] [(.int (fa ((1 : Int32)).toNatClampNeg))])) := fun t k => pre15 t (X0.baloadBytes hx (j := (1 : Int32)) (v := .int (fa ((1 : Int32)).toNatClampNeg)) (by rw [show s₁.heap = h0 from e0]; exact Ar16.1) (State.isArrayOf_alike hZ.alike Ar16.2.1) Ar16.2.2 hin16 hv16 (g := (mkF m 21 #[.val (.ref aa), .val (.ref an), .val (.int p3)] [(.int (1 : Int32)), (.ref aa)])) rfl rfl (hb hby d5_21) t k)
      have pre18 : own_Go p e below (s₁.setTop (entryFrame m #[(.ref aa), (.ref an), (.int p3)] 3)) (s₁.setTop (mkF m 24 #[.val (.ref aa), .val (.ref an), .val (.int p3)] [(.int (1 : Int32)), (.ref an), (.int (fa ((1 : Int32)).toNatClampNeg))])) := fun t k => pre17 t (by
          show Steps p.tables e below (s₁.setTop (mkF m 22 #[.val (.ref aa), .val (.ref an), .val (.int p3)] [(.int (fa ((1 : Int32)).toNatClampNeg))])) _
          refine XS.aloadN X0.here hx rfl (hb hby d5_22) rfl rfl ?_
          show Steps p.tables e below (s₁.setTop (mkF m 23 #[.val (.ref aa), .val (.ref an), .val (.int p3)] [(.ref an), (.int (fa ((1 : Int32)).toNatClampNeg))])) _
          refine XS.iconst X0.here hx rfl (hb hby d5_23) ?_
          exact k)
      obtain ⟨cl19, Ar19, hin19, hv19⟩ := own_A.at Vn (j := (1 : Int32)) (by decide) (own_k (k := (1 : Int32)) (by decide) (by decide) c16_4).2.1
      have pre20 : own_Go p e below (s₁.setTop (entryFrame m #[(.ref aa), (.ref an), (.int p3)] 3)) (s₁.setTop (mkF m 25 #[.val (.ref aa), .val (.ref an), .val (.int p3)] [(.int (fn ((1 : Int32)).toNatClampNeg)), (.int (fa ((1 : Int32)).toNatClampNeg))])) := fun t k => pre18 t (X0.baloadBytes hx (j := (1 : Int32)) (v := .int (fn ((1 : Int32)).toNatClampNeg)) (by rw [show s₁.heap = h0 from e0]; exact Ar19.1) (State.isArrayOf_alike hZ.alike Ar19.2.1) Ar19.2.2 hin19 hv19 (g := (mkF m 24 #[.val (.ref aa), .val (.ref an), .val (.int p3)] [(.int (1 : Int32)), (.ref an), (.int (fa ((1 : Int32)).toNatClampNeg))])) rfl rfl (hb hby d5_24) t k)
      have pre21 : own_Go p e below (s₁.setTop (entryFrame m #[(.ref aa), (.ref an), (.int p3)] 3)) (s₁.setTop (mkF m 30 #[.val (.ref aa), .val (.ref an), .val (.int p3)] [(.int (3 : Int32)), (.int p3)])) := fun t k => pre20 t (by
          show Steps p.tables e below (s₁.setTop (mkF m 25 #[.val (.ref aa), .val (.ref an), .val (.int p3)] [(.int (fn ((1 : Int32)).toNatClampNeg)), (.int (fa ((1 : Int32)).toNatClampNeg))])) _
          refine XS.icmpNo X0.here hx rfl (hb hby d5_25) rfl (XT.ii_ne_f (heq _ (own_k (k := (1 : Int32)) (by decide) (by decide) c16_4).2.2)) ?_
          show Steps p.tables e below (s₁.setTop (mkF m 28 #[.val (.ref aa), .val (.ref an), .val (.int p3)] [])) _
          refine XS.iloadN X0.here hx rfl (hb hby d5_28) rfl ?_
          show Steps p.tables e below (s₁.setTop (mkF m 29 #[.val (.ref aa), .val (.ref an), .val (.int p3)] [(.int p3)])) _
          refine XS.iconst X0.here hx rfl (hb hby d5_29) ?_
          exact k)
      by_cases c30_22 : p3 < (3 : Int32)
      · skip
        have pre23 : own_Go p e below (s₁.setTop (entryFrame m #[(.ref aa), (.ref an), (.int p3)] 3)) (s₁.setTop (mkF m 47 #[.val (.ref aa), .val (.ref an), .val (.int p3)] [(.int (1 : Int32))])) := fun t k => pre21 t (by
            show Steps p.tables e below (s₁.setTop (mkF m 30 #[.val (.ref aa), .val (.ref an), .val (.int p3)] [(.int (3 : Int32)), (.int p3)])) _
            refine XS.icmpYes X0.here hx rfl (pc0 := 30) (pc' := 42) rfl (hb hby d5_30) rfl (XT.ii_lt_t c30_22) (by decide) (by decide) ?_
            show Steps p.tables e below (s₁.setTop (mkF m 42 #[.val (.ref aa), .val (.ref an), .val (.int p3)] [])) _
            refine XS.iconst X0.here hx rfl (hb hby d5_42) ?_
            show Steps p.tables e below (s₁.setTop (mkF m 43 #[.val (.ref aa), .val (.ref an), .val (.int p3)] [(.int (1 : Int32))])) _
            refine XS.goto X0.here hx rfl (pc0 := 43) (pc' := 47) rfl (hb hby d5_43) (by decide) (by decide) ?_
            exact k)
        obtain ⟨fs, hr, hrun, hended, hW, hsame⟩ := X0.leave (v := some (.int (1 : Int32))) (fun h => by rw [Bd.returns] at h; cases h)
        refine ⟨_, _, pre23 _ ?_, hrun, hended, _, _, rfl, ?_, ⟨_, rfl⟩, hW, hsame.mono (by decide) (by decide)⟩
        · show Steps p.tables e below (s₁.setTop (mkF m 47 #[.val (.ref aa), .val (.ref an), .val (.int p3)] [(.int (1 : Int32))])) _
          exact retN X0 hx (t := .boolean) Bd.returns (by simp) (hb hby d5_47) hr
        · show Q5 Z  h0 n0 _ s₁.heap _
          rw [e0]
          exact ⟨rfl, N0, rfl⟩
      · skip
        have pre24 : own_Go p e below (s₁.setTop (entryFrame m #[(.ref aa), (.ref an), (.int p3)] 3)) (s₁.setTop (mkF m 35 #[.val (.ref aa), .val (.ref an), .val (.int p3)] [(.int (2 : Int32)), (.ref aa)])) := fun t k => pre21 t (by
            show Steps p.tables e below (s₁.setTop (mkF m 30 #[.val (.ref aa), .val (.ref an), .val (.int p3)] [(.int (3 : Int32)), (.int p3)])) _
            refine XS.icmpNo X0.here hx rfl (hb hby d5_30) rfl (XT.ii_lt_f c30_22) ?_
            show Steps p.tables e below (s₁.setTop (mkF m 33 #[.val (.ref aa), .val (.ref an), .val (.int p3)] [])) _
            refine XS.aloadN X0.here hx rfl (hb hby d5_33) rfl rfl ?_
            show Steps p.tables e below (s₁.setTop (mkF m 34 #[.val (.ref aa), .val (.ref an), .val (.int p3)] [(.ref aa)])) _
            refine XS.iconst X0.here hx rfl (hb hby d5_34) ?_
            exact k)
        obtain ⟨cl25, Ar25, hin25, hv25⟩ := own_A.at Va (j := (2 : Int32)) (by decide) (own_lt (Int.lt_of_lt_of_le (own_k (k := (2 : Int32)) (by decide) (by decide) c30_22).1 hna))
        have pre26 : own_Go p e below (s₁.setTop (entryFrame m #[(.ref aa), (.ref an), (.int p3)] 3)) (s₁.setTop (mkF m 36 #[.val (.ref aa), .val (.ref an), .val (.int p3)] [(.int (fa ((2 : Int32)).toNatClampNeg))])) := fun t k => pre24 t (X0.baloadBytes hx (j := (2 : Int32)) (v := .int (fa ((2 : Int32)).toNatClampNeg)) (by rw [show s₁.heap = h0 from e0]; exact Ar25.1) (State.isArrayOf_alike hZ.alike Ar25.2.1) Ar25.2.2 hin25 hv25 (g := (mkF m 35 #[.val (.ref aa), .val (.ref an), .val (.int p3)] [(.int (2 : Int32)), (.ref aa)])) rfl rfl (hb hby d5_35) t k)
        have pre27 : own_Go p e below (s₁.setTop (entryFrame m #[(.ref aa), (.ref an), (.int p3)] 3)) (s₁.setTop (mkF m 38 #[.val (.ref aa), .val (.ref an), .val (.int p3)] [(.int (2 : Int32)), (.ref an), (.int (fa ((2 : Int32)).toNatClampNeg))])) := fun t k => pre26 t (by
            show Steps p.tables e below (s₁.setTop (mkF m 36 #[.val (.ref aa), .val (.ref an), .val (.int p3)] [(.int (fa ((2 : Int32)).toNatClampNeg))])) _
            refine XS.aloadN X0.here hx rfl (hb hby d5_36) rfl rfl ?_
            show Steps p.tables e below (s₁.setTop (mkF m 37 #[.val (.ref aa), .val (.ref an), .val (.int p3)] [(.ref an), (.int (fa ((2 : Int32)).toNatClampNeg))])) _
            refine XS.iconst X0.here hx rfl (hb hby d5_37) ?_
            exact k)
        obtain ⟨cl28, Ar28, hin28, hv28⟩ := own_A.at Vn (j := (2 : Int32)) (by decide) (own_k (k := (2 : Int32)) (by decide) (by decide) c30_22).2.1
        have pre29 : own_Go p e below (s₁.setTop (entryFrame m #[(.ref aa), (.ref an), (.int p3)] 3)) (s₁.setTop (mkF m 39 #[.val (.ref aa), .val (.ref an), .val (.int p3)] [(.int (fn ((2 : Int32)).toNatClampNeg)), (.int (fa ((2 : Int32)).toNatClampNeg))])) := fun t k => pre27 t (X0.baloadBytes hx (j := (2 : Int32)) (v := .int (fn ((2 : Int32)).toNatClampNeg)) (by rw [show s₁.heap = h0 from e0]; exact Ar28.1) (State.isArrayOf_alike hZ.alike Ar28.2.1) Ar28.2.2 hin28 hv28 (g := (mkF m 38 #[.val (.ref aa), .val (.ref an), .val (.int p3)] [(.int (2 : Int32)), (.ref an), (.int (fa ((2 : Int32)).toNatClampNeg))])) rfl rfl (hb hby d5_38) t k)
        have pre30 : own_Go p e below (s₁.setTop (entryFrame m #[(.ref aa), (.ref an), (.int p3)] 3)) (s₁.setTop (mkF m 47 #[.val (.ref aa), .val (.ref an), .val (.int p3)] [(.int (1 : Int32))])) := fun t k => pre29 t (by
            show Steps p.tables e below (s₁.setTop (mkF m 39 #[.val (.ref aa), .val (.ref an), .val (.int p3)] [(.int (fn ((2 : Int32)).toNatClampNeg)), (.int (fa ((2 : Int32)).toNatClampNeg))])) _
            refine XS.icmpNo X0.here hx rfl (hb hby d5_39) rfl (XT.ii_ne_f (heq _ (own_k (k := (2 : Int32)) (by decide) (by decide) c30_22).2.2)) ?_
            show Steps p.tables e below (s₁.setTop (mkF m 42 #[.val (.ref aa), .val (.ref an), .val (.int p3)] [])) _
            refine XS.iconst X0.here hx rfl (hb hby d5_42) ?_
            show Steps p.tables e below (s₁.setTop (mkF m 43 #[.val (.ref aa), .val (.ref an), .val (.int p3)] [(.int (1 : Int32))])) _
            refine XS.goto X0.here hx rfl (pc0 := 43) (pc' := 47) rfl (hb hby d5_43) (by decide) (by decide) ?_
            exact k)
        obtain ⟨fs, hr, hrun, hended, hW, hsame⟩ := X0.leave (v := some (.int (1 : Int32))) (fun h => by rw [Bd.returns] at h; cases h)
        refine ⟨_, _, pre30 _ ?_, hrun, hended, _, _, rfl, ?_, ⟨_, rfl⟩, hW, hsame.mono (by decide) (by decide)⟩
        · show Steps p.tables e below (s₁.setTop (mkF m 47 #[.val (.ref aa), .val (.ref an), .val (.int p3)] [(.int (1 : Int32))])) _
          exact retN X0 hx (t := .boolean) Bd.returns (by simp) (hb hby d5_47) hr
        · show Q5 Z  h0 n0 _ s₁.heap _
          rw [e0]
          exact ⟨rfl, N0, rfl⟩
  · skip
    have pre31 : own_Go p e below (s₁.setTop (entryFrame m #[(.ref aa), (.ref an), (.int p3)] 3)) (s₁.setTop (mkF m 7 #[.val (.ref aa), .val (.ref an), .val (.int p3)] [(.int (0 : Int32)), (.ref aa)])) := fun t k => pre1 t (by
        show Steps p.tables e below (s₁.setTop (mkF m 2 #[.val (.ref aa), .val (.ref an), .val (.int p3)] [(.int (1 : Int32)), (.int p3)])) _
        refine XS.icmpNo X0.here hx rfl (hb hby d5_2) rfl (XT.ii_lt_f c2_2) ?_
        show Steps p.tables e below (s₁.setTop (mkF m 5 #[.val (.ref aa), .val (.ref an), .val (.int p3)] [])) _
        refine XS.aloadN X0.here hx rfl (hb hby d5_5) rfl rfl ?_
        show Steps p.tables e below (s₁.setTop (mkF m 6 #[.val (.ref aa), .val (.ref an), .val (.int p3)] [(.ref aa)])) _
        refine XS.iconst X0.here hx rfl (hb hby d5_6) ?_
        exact k)
    obtain ⟨cl32, Ar32, hin32, hv32⟩ := own_A.at Va (j := (0 : Int32)) (by decide) (own_lt (Int.lt_of_lt_of_le (own_k (k := (0 : Int32)) (by decide) (by decide) c2_2).1 hna))
    have pre33 : own_Go p e below (s₁.setTop (entryFrame m #[(.ref aa), (.ref an), (.int p3)] 3)) (s₁.setTop (mkF m 8 #[.val (.ref aa), .val (.ref an), .val (.int p3)] [(.int (fa ((0 : Int32)).toNatClampNeg))])) := fun t k => pre31 t (X0.baloadBytes hx (j := (0 : Int32)) (v := .int (fa ((0 : Int32)).toNatClampNeg)) (by rw [show s₁.heap = h0 from e0]; exact Ar32.1) (State.isArrayOf_alike hZ.alike Ar32.2.1) Ar32.2.2 hin32 hv32 (g := (mkF m 7 #[.val (.ref aa), .val (.ref an), .val (.int p3)] [(.int (0 : Int32)), (.ref aa)])) rfl rfl (hb hby d5_7) t k)
    have pre34 : own_Go p e below (s₁.setTop (entryFrame m #[(.ref aa), (.ref an), (.int p3)] 3)) (s₁.setTop (mkF m 10 #[.val (.ref aa), .val (.ref an), .val (.int p3)] [(.int (0 : Int32)), (.ref an), (.int (fa ((0 : Int32)).toNatClampNeg))])) := fun t k => pre33 t (by
        show Steps p.tables e below (s₁.setTop (mkF m 8 #[.val (.ref aa), .val (.ref an), .val (.int p3)] [(.int (fa ((0 : Int32)).toNatClampNeg))])) _
        refine XS.aloadN X0.here hx rfl (hb hby d5_8) rfl rfl ?_
        show Steps p.tables e below (s₁.setTop (mkF m 9 #[.val (.ref aa), .val (.ref an), .val (.int p3)] [(.ref an), (.int (fa ((0 : Int32)).toNatClampNeg))])) _
        refine XS.iconst X0.here hx rfl (hb hby d5_9) ?_
        exact k)
    obtain ⟨cl35, Ar35, hin35, hv35⟩ := own_A.at Vn (j := (0 : Int32)) (by decide) (own_k (k := (0 : Int32)) (by decide) (by decide) c2_2).2.1
    have pre36 : own_Go p e below (s₁.setTop (entryFrame m #[(.ref aa), (.ref an), (.int p3)] 3)) (s₁.setTop (mkF m 11 #[.val (.ref aa), .val (.ref an), .val (.int p3)] [(.int (fn ((0 : Int32)).toNatClampNeg)), (.int (fa ((0 : Int32)).toNatClampNeg))])) := fun t k => pre34 t (X0.baloadBytes hx (j := (0 : Int32)) (v := .int (fn ((0 : Int32)).toNatClampNeg)) (by rw [show s₁.heap = h0 from e0]; exact Ar35.1) (State.isArrayOf_alike hZ.alike Ar35.2.1) Ar35.2.2 hin35 hv35 (g := (mkF m 10 #[.val (.ref aa), .val (.ref an), .val (.int p3)] [(.int (0 : Int32)), (.ref an), (.int (fa ((0 : Int32)).toNatClampNeg))])) rfl rfl (hb hby d5_10) t k)
    have pre37 : own_Go p e below (s₁.setTop (entryFrame m #[(.ref aa), (.ref an), (.int p3)] 3)) (s₁.setTop (mkF m 16 #[.val (.ref aa), .val (.ref an), .val (.int p3)] [(.int (2 : Int32)), (.int p3)])) := fun t k => pre36 t (by
        show Steps p.tables e below (s₁.setTop (mkF m 11 #[.val (.ref aa), .val (.ref an), .val (.int p3)] [(.int (fn ((0 : Int32)).toNatClampNeg)), (.int (fa ((0 : Int32)).toNatClampNeg))])) _
        refine XS.icmpNo X0.here hx rfl (hb hby d5_11) rfl (XT.ii_ne_f (heq _ (own_k (k := (0 : Int32)) (by decide) (by decide) c2_2).2.2)) ?_
        show Steps p.tables e below (s₁.setTop (mkF m 14 #[.val (.ref aa), .val (.ref an), .val (.int p3)] [])) _
        refine XS.iloadN X0.here hx rfl (hb hby d5_14) rfl ?_
        show Steps p.tables e below (s₁.setTop (mkF m 15 #[.val (.ref aa), .val (.ref an), .val (.int p3)] [(.int p3)])) _
        refine XS.iconst X0.here hx rfl (hb hby d5_15) ?_
        exact k)
    by_cases c16_38 : p3 < (2 : Int32)
    · skip
      have pre39 : own_Go p e below (s₁.setTop (entryFrame m #[(.ref aa), (.ref an), (.int p3)] 3)) (s₁.setTop (mkF m 30 #[.val (.ref aa), .val (.ref an), .val (.int p3)] [(.int (3 : Int32)), (.int p3)])) := fun t k => pre37 t (by
          show Steps p.tables e below (s₁.setTop (mkF m 16 #[.val (.ref aa), .val (.ref an), .val (.int p3)] [(.int (2 : Int32)), (.int p3)])) _
          refine XS.icmpYes X0.here hx rfl (pc0 := 16) (pc' := 28) rfl (hb hby d5_16) rfl (XT.ii_lt_t c16_38) (by decide) (by decide) ?_
          show Steps p.tables e below (s₁.setTop (mkF m 28 #[.val (.ref aa), .val (.ref an), .val (.int p3)] [])) _
          refine XS.iloadN X0.here hx rfl (hb hby d5_28) rfl ?_
          show Steps p.tables e below (s₁.setTop (mkF m 29 #[.val (.ref aa), .val (.ref an), .val (.int p3)] [(.int p3)])) _
          refine XS.iconst X0.here hx rfl (hb hby d5_29) ?_
          exact k)
      by_cases c30_40 : p3 < (3 : Int32)
      · skip
        have pre41 : own_Go p e below (s₁.setTop (entryFrame m #[(.ref aa), (.ref an), (.int p3)] 3)) (s₁.setTop (mkF m 47 #[.val (.ref aa), .val (.ref an), .val (.int p3)] [(.int (1 : Int32))])) := fun t k => pre39 t (by
            show Steps p.tables e below (s₁.setTop (mkF m 30 #[.val (.ref aa), .val (.ref an), .val (.int p3)] [(.int (3 : Int32)), (.int p3)])) _
            refine XS.icmpYes X0.here hx rfl (pc0 := 30) (pc' := 42) rfl (hb hby d5_30) rfl (XT.ii_lt_t c30_40) (by decide) (by decide) ?_
            show Steps p.tables e below (s₁.setTop (mkF m 42 #[.val (.ref aa), .val (.ref an), .val (.int p3)] [])) _
            refine XS.iconst X0.here hx rfl (hb hby d5_42) ?_
            show Steps p.tables e below (s₁.setTop (mkF m 43 #[.val (.ref aa), .val (.ref an), .val (.int p3)] [(.int (1 : Int32))])) _
            refine XS.goto X0.here hx rfl (pc0 := 43) (pc' := 47) rfl (hb hby d5_43) (by decide) (by decide) ?_
            exact k)
        obtain ⟨fs, hr, hrun, hended, hW, hsame⟩ := X0.leave (v := some (.int (1 : Int32))) (fun h => by rw [Bd.returns] at h; cases h)
        refine ⟨_, _, pre41 _ ?_, hrun, hended, _, _, rfl, ?_, ⟨_, rfl⟩, hW, hsame.mono (by decide) (by decide)⟩
        · show Steps p.tables e below (s₁.setTop (mkF m 47 #[.val (.ref aa), .val (.ref an), .val (.int p3)] [(.int (1 : Int32))])) _
          exact retN X0 hx (t := .boolean) Bd.returns (by simp) (hb hby d5_47) hr
        · show Q5 Z  h0 n0 _ s₁.heap _
          rw [e0]
          exact ⟨rfl, N0, rfl⟩
      · skip
        have pre42 : own_Go p e below (s₁.setTop (entryFrame m #[(.ref aa), (.ref an), (.int p3)] 3)) (s₁.setTop (mkF m 35 #[.val (.ref aa), .val (.ref an), .val (.int p3)] [(.int (2 : Int32)), (.ref aa)])) := fun t k => pre39 t (by
            show Steps p.tables e below (s₁.setTop (mkF m 30 #[.val (.ref aa), .val (.ref an), .val (.int p3)] [(.int (3 : Int32)), (.int p3)])) _
            refine XS.icmpNo X0.here hx rfl (hb hby d5_30) rfl (XT.ii_lt_f c30_40) ?_
            show Steps p.tables e below (s₁.setTop (mkF m 33 #[.val (.ref aa), .val (.ref an), .val (.int p3)] [])) _
            refine XS.aloadN X0.here hx rfl (hb hby d5_33) rfl rfl ?_
            show Steps p.tables e below (s₁.setTop (mkF m 34 #[.val (.ref aa), .val (.ref an), .val (.int p3)] [(.ref aa)])) _
            refine XS.iconst X0.here hx rfl (hb hby d5_34) ?_
            exact k)
        obtain ⟨cl43, Ar43, hin43, hv43⟩ := own_A.at Va (j := (2 : Int32)) (by decide) (own_lt (Int.lt_of_lt_of_le (own_k (k := (2 : Int32)) (by decide) (by decide) c30_40).1 hna))
        have pre44 : own_Go p e below (s₁.setTop (entryFrame m #[(.ref aa), (.ref an), (.int p3)] 3)) (s₁.setTop (mkF m 36 #[.val (.ref aa), .val (.ref an), .val (.int p3)] [(.int (fa ((2 : Int32)).toNatClampNeg))])) := fun t k => pre42 t (X0.baloadBytes hx (j := (2 : Int32)) (v := .int (fa ((2 : Int32)).toNatClampNeg)) (by rw [show s₁.heap = h0 from e0]; exact Ar43.1) (State.isArrayOf_alike hZ.alike Ar43.2.1) Ar43.2.2 hin43 hv43 (g := (mkF m 35 #[.val (.ref aa), .val (.ref an), .val (.int p3)] [(.int (2 : Int32)), (.ref aa)])) rfl rfl (hb hby d5_35) t k)
        have pre45 : own_Go p e below (s₁.setTop (entryFrame m #[(.ref aa), (.ref an), (.int p3)] 3)) (s₁.setTop (mkF m 38 #[.val (.ref aa), .val (.ref an), .val (.int p3)] [(.int (2 : Int32)), (.ref an), (.int (fa ((2 : Int32)).toNatClampNeg))])) := fun t k => pre44 t (by
            show Steps p.tables e below (s₁.setTop (mkF m 36 #[.val (.ref aa), .val (.ref an), .val (.int p3)] [(.int (fa ((2 : Int32)).toNatClampNeg))])) _
            refine XS.aloadN X0.here hx rfl (hb hby d5_36) rfl rfl ?_
            show Steps p.tables e below (s₁.setTop (mkF m 37 #[.val (.ref aa), .val (.ref an), .val (.int p3)] [(.ref an), (.int (fa ((2 : Int32)).toNatClampNeg))])) _
            refine XS.iconst X0.here hx rfl (hb hby d5_37) ?_
            exact k)
        obtain ⟨cl46, Ar46, hin46, hv46⟩ := own_A.at Vn (j := (2 : Int32)) (by decide) (own_k (k := (2 : Int32)) (by decide) (by decide) c30_40).2.1
        have pre47 : own_Go p e below (s₁.setTop (entryFrame m #[(.ref aa), (.ref an), (.int p3)] 3)) (s₁.setTop (mkF m 39 #[.val (.ref aa), .val (.ref an), .val (.int p3)] [(.int (fn ((2 : Int32)).toNatClampNeg)), (.int (fa ((2 : Int32)).toNatClampNeg))])) := fun t k => pre45 t (X0.baloadBytes hx (j := (2 : Int32)) (v := .int (fn ((2 : Int32)).toNatClampNeg)) (by rw [show s₁.heap = h0 from e0]; exact Ar46.1) (State.isArrayOf_alike hZ.alike Ar46.2.1) Ar46.2.2 hin46 hv46 (g := (mkF m 38 #[.val (.ref aa), .val (.ref an), .val (.int p3)] [(.int (2 : Int32)), (.ref an), (.int (fa ((2 : Int32)).toNatClampNeg))])) rfl rfl (hb hby d5_38) t k)
        have pre48 : own_Go p e below (s₁.setTop (entryFrame m #[(.ref aa), (.ref an), (.int p3)] 3)) (s₁.setTop (mkF m 47 #[.val (.ref aa), .val (.ref an), .val (.int p3)] [(.int (1 : Int32))])) := fun t k => pre47 t (by
            show Steps p.tables e below (s₁.setTop (mkF m 39 #[.val (.ref aa), .val (.ref an), .val (.int p3)] [(.int (fn ((2 : Int32)).toNatClampNeg)), (.int (fa ((2 : Int32)).toNatClampNeg))])) _
            refine XS.icmpNo X0.here hx rfl (hb hby d5_39) rfl (XT.ii_ne_f (heq _ (own_k (k := (2 : Int32)) (by decide) (by decide) c30_40).2.2)) ?_
            show Steps p.tables e below (s₁.setTop (mkF m 42 #[.val (.ref aa), .val (.ref an), .val (.int p3)] [])) _
            refine XS.iconst X0.here hx rfl (hb hby d5_42) ?_
            show Steps p.tables e below (s₁.setTop (mkF m 43 #[.val (.ref aa), .val (.ref an), .val (.int p3)] [(.int (1 : Int32))])) _
            refine XS.goto X0.here hx rfl (pc0 := 43) (pc' := 47) rfl (hb hby d5_43) (by decide) (by decide) ?_
            exact k)
        obtain ⟨fs, hr, hrun, hended, hW, hsame⟩ := X0.leave (v := some (.int (1 : Int32))) (fun h => by rw [Bd.returns] at h; cases h)
        refine ⟨_, _, pre48 _ ?_, hrun, hended, _, _, rfl, ?_, ⟨_, rfl⟩, hW, hsame.mono (by decide) (by decide)⟩
        · show Steps p.tables e below (s₁.setTop (mkF m 47 #[.val (.ref aa), .val (.ref an), .val (.int p3)] [(.int (1 : Int32))])) _
          exact retN X0 hx (t := .boolean) Bd.returns (by simp) (hb hby d5_47) hr
        · show Q5 Z  h0 n0 _ s₁.heap _
          rw [e0]
          exact ⟨rfl, N0, rfl⟩
    · skip
      have pre49 : own_Go p e below (s₁.setTop (entryFrame m #[(.ref aa), (.ref an), (.int p3)] 3)) (s₁.setTop (mkF m 21 #[.val (.ref aa), .val (.ref an), .val (.int p3)] [(.int (1 : Int32)), (.ref aa)])) := fun t k => pre37 t (by
          show Steps p.tables e below (s₁.setTop (mkF m 16 #[.val (.ref aa), .val (.ref an), .val (.int p3)] [(.int (2 : Int32)), (.int p3)])) _
          refine XS.icmpNo X0.here hx rfl (hb hby d5_16) rfl (XT.ii_lt_f c16_38) ?_
          show Steps p.tables e below (s₁.setTop (mkF m 19 #[.val (.ref aa), .val (.ref an), .val (.int p3)] [])) _
          refine XS.aloadN X0.here hx rfl (hb hby d5_19) rfl rfl ?_
          show Steps p.tables e below (s₁.setTop (mkF m 20 #[.val (.ref aa), .val (.ref an), .val (.int p3)] [(.ref aa)])) _
          refine XS.iconst X0.here hx rfl (hb hby d5_20) ?_
          exact k)
      obtain ⟨cl50, Ar50, hin50, hv50⟩ := own_A.at Va (j := (1 : Int32)) (by decide) (own_lt (Int.lt_of_lt_of_le (own_k (k := (1 : Int32)) (by decide) (by decide) c16_38).1 hna))
      have pre51 : own_Go p e below (s₁.setTop (entryFrame m #[(.ref aa), (.ref an), (.int p3)] 3)) (s₁.setTop (mkF m 22 #[.val (.ref aa), .val (.ref an), .val (.int p3)] [(.int (fa ((1 : Int32)).toNatClampNeg))])) := fun t k => pre49 t (X0.baloadBytes hx (j := (1 : Int32)) (v := .int (fa ((1 : Int32)).toNatClampNeg)) (by rw [show s₁.heap = h0 from e0]; exact Ar50.1) (State.isArrayOf_alike hZ.alike Ar50.2.1) Ar50.2.2 hin50 hv50 (g := (mkF m 21 #[.val (.ref aa), .val (.ref an), .val (.int p3)] [(.int (1 : Int32)), (.ref aa)])) rfl rfl (hb hby d5_21) t k)
      have pre52 : own_Go p e below (s₁.setTop (entryFrame m #[(.ref aa), (.ref an), (.int p3)] 3)) (s₁.setTop (mkF m 24 #[.val (.ref aa), .val (.ref an), .val (.int p3)] [(.int (1 : Int32)), (.ref an), (.int (fa ((1 : Int32)).toNatClampNeg))])) := fun t k => pre51 t (by
          show Steps p.tables e below (s₁.setTop (mkF m 22 #[.val (.ref aa), .val (.ref an), .val (.int p3)] [(.int (fa ((1 : Int32)).toNatClampNeg))])) _
          refine XS.aloadN X0.here hx rfl (hb hby d5_22) rfl rfl ?_
          show Steps p.tables e below (s₁.setTop (mkF m 23 #[.val (.ref aa), .val (.ref an), .val (.int p3)] [(.ref an), (.int (fa ((1 : Int32)).toNatClampNeg))])) _
          refine XS.iconst X0.here hx rfl (hb hby d5_23) ?_
          exact k)
      obtain ⟨cl53, Ar53, hin53, hv53⟩ := own_A.at Vn (j := (1 : Int32)) (by decide) (own_k (k := (1 : Int32)) (by decide) (by decide) c16_38).2.1
      have pre54 : own_Go p e below (s₁.setTop (entryFrame m #[(.ref aa), (.ref an), (.int p3)] 3)) (s₁.setTop (mkF m 25 #[.val (.ref aa), .val (.ref an), .val (.int p3)] [(.int (fn ((1 : Int32)).toNatClampNeg)), (.int (fa ((1 : Int32)).toNatClampNeg))])) := fun t k => pre52 t (X0.baloadBytes hx (j := (1 : Int32)) (v := .int (fn ((1 : Int32)).toNatClampNeg)) (by rw [show s₁.heap = h0 from e0]; exact Ar53.1) (State.isArrayOf_alike hZ.alike Ar53.2.1) Ar53.2.2 hin53 hv53 (g := (mkF m 24 #[.val (.ref aa), .val (.ref an), .val (.int p3)] [(.int (1 : Int32)), (.ref an), (.int (fa ((1 : Int32)).toNatClampNeg))])) rfl rfl (hb hby d5_24) t k)
      have pre55 : own_Go p e below (s₁.setTop (entryFrame m #[(.ref aa), (.ref an), (.int p3)] 3)) (s₁.setTop (mkF m 30 #[.val (.ref aa), .val (.ref an), .val (.int p3)] [(.int (3 : Int32)), (.int p3)])) := fun t k => pre54 t (by
          show Steps p.tables e below (s₁.setTop (mkF m 25 #[.val (.ref aa), .val (.ref an), .val (.int p3)] [(.int (fn ((1 : Int32)).toNatClampNeg)), (.int (fa ((1 : Int32)).toNatClampNeg))])) _
          refine XS.icmpNo X0.here hx rfl (hb hby d5_25) rfl (XT.ii_ne_f (heq _ (own_k (k := (1 : Int32)) (by decide) (by decide) c16_38).2.2)) ?_
          show Steps p.tables e below (s₁.setTop (mkF m 28 #[.val (.ref aa), .val (.ref an), .val (.int p3)] [])) _
          refine XS.iloadN X0.here hx rfl (hb hby d5_28) rfl ?_
          show Steps p.tables e below (s₁.setTop (mkF m 29 #[.val (.ref aa), .val (.ref an), .val (.int p3)] [(.int p3)])) _
          refine XS.iconst X0.here hx rfl (hb hby d5_29) ?_
          exact k)
      by_cases c30_56 : p3 < (3 : Int32)
      · skip
        have pre57 : own_Go p e below (s₁.setTop (entryFrame m #[(.ref aa), (.ref an), (.int p3)] 3)) (s₁.setTop (mkF m 47 #[.val (.ref aa), .val (.ref an), .val (.int p3)] [(.int (1 : Int32))])) := fun t k => pre55 t (by
            show Steps p.tables e below (s₁.setTop (mkF m 30 #[.val (.ref aa), .val (.ref an), .val (.int p3)] [(.int (3 : Int32)), (.int p3)])) _
            refine XS.icmpYes X0.here hx rfl (pc0 := 30) (pc' := 42) rfl (hb hby d5_30) rfl (XT.ii_lt_t c30_56) (by decide) (by decide) ?_
            show Steps p.tables e below (s₁.setTop (mkF m 42 #[.val (.ref aa), .val (.ref an), .val (.int p3)] [])) _
            refine XS.iconst X0.here hx rfl (hb hby d5_42) ?_
            show Steps p.tables e below (s₁.setTop (mkF m 43 #[.val (.ref aa), .val (.ref an), .val (.int p3)] [(.int (1 : Int32))])) _
            refine XS.goto X0.here hx rfl (pc0 := 43) (pc' := 47) rfl (hb hby d5_43) (by decide) (by decide) ?_
            exact k)
        obtain ⟨fs, hr, hrun, hended, hW, hsame⟩ := X0.leave (v := some (.int (1 : Int32))) (fun h => by rw [Bd.returns] at h; cases h)
        refine ⟨_, _, pre57 _ ?_, hrun, hended, _, _, rfl, ?_, ⟨_, rfl⟩, hW, hsame.mono (by decide) (by decide)⟩
        · show Steps p.tables e below (s₁.setTop (mkF m 47 #[.val (.ref aa), .val (.ref an), .val (.int p3)] [(.int (1 : Int32))])) _
          exact retN X0 hx (t := .boolean) Bd.returns (by simp) (hb hby d5_47) hr
        · show Q5 Z  h0 n0 _ s₁.heap _
          rw [e0]
          exact ⟨rfl, N0, rfl⟩
      · skip
        have pre58 : own_Go p e below (s₁.setTop (entryFrame m #[(.ref aa), (.ref an), (.int p3)] 3)) (s₁.setTop (mkF m 35 #[.val (.ref aa), .val (.ref an), .val (.int p3)] [(.int (2 : Int32)), (.ref aa)])) := fun t k => pre55 t (by
            show Steps p.tables e below (s₁.setTop (mkF m 30 #[.val (.ref aa), .val (.ref an), .val (.int p3)] [(.int (3 : Int32)), (.int p3)])) _
            refine XS.icmpNo X0.here hx rfl (hb hby d5_30) rfl (XT.ii_lt_f c30_56) ?_
            show Steps p.tables e below (s₁.setTop (mkF m 33 #[.val (.ref aa), .val (.ref an), .val (.int p3)] [])) _
            refine XS.aloadN X0.here hx rfl (hb hby d5_33) rfl rfl ?_
            show Steps p.tables e below (s₁.setTop (mkF m 34 #[.val (.ref aa), .val (.ref an), .val (.int p3)] [(.ref aa)])) _
            refine XS.iconst X0.here hx rfl (hb hby d5_34) ?_
            exact k)
        obtain ⟨cl59, Ar59, hin59, hv59⟩ := own_A.at Va (j := (2 : Int32)) (by decide) (own_lt (Int.lt_of_lt_of_le (own_k (k := (2 : Int32)) (by decide) (by decide) c30_56).1 hna))
        have pre60 : own_Go p e below (s₁.setTop (entryFrame m #[(.ref aa), (.ref an), (.int p3)] 3)) (s₁.setTop (mkF m 36 #[.val (.ref aa), .val (.ref an), .val (.int p3)] [(.int (fa ((2 : Int32)).toNatClampNeg))])) := fun t k => pre58 t (X0.baloadBytes hx (j := (2 : Int32)) (v := .int (fa ((2 : Int32)).toNatClampNeg)) (by rw [show s₁.heap = h0 from e0]; exact Ar59.1) (State.isArrayOf_alike hZ.alike Ar59.2.1) Ar59.2.2 hin59 hv59 (g := (mkF m 35 #[.val (.ref aa), .val (.ref an), .val (.int p3)] [(.int (2 : Int32)), (.ref aa)])) rfl rfl (hb hby d5_35) t k)
        have pre61 : own_Go p e below (s₁.setTop (entryFrame m #[(.ref aa), (.ref an), (.int p3)] 3)) (s₁.setTop (mkF m 38 #[.val (.ref aa), .val (.ref an), .val (.int p3)] [(.int (2 : Int32)), (.ref an), (.int (fa ((2 : Int32)).toNatClampNeg))])) := fun t k => pre60 t (by
            show Steps p.tables e below (s₁.setTop (mkF m 36 #[.val (.ref aa), .val (.ref an), .val (.int p3)] [(.int (fa ((2 : Int32)).toNatClampNeg))])) _
            refine XS.aloadN X0.here hx rfl (hb hby d5_36) rfl rfl ?_
            show Steps p.tables e below (s₁.setTop (mkF m 37 #[.val (.ref aa), .val (.ref an), .val (.int p3)] [(.ref an), (.int (fa ((2 : Int32)).toNatClampNeg))])) _
            refine XS.iconst X0.here hx rfl (hb hby d5_37) ?_
            exact k)
        obtain ⟨cl62, Ar62, hin62, hv62⟩ := own_A.at Vn (j := (2 : Int32)) (by decide) (own_k (k := (2 : Int32)) (by decide) (by decide) c30_56).2.1
        have pre63 : own_Go p e below (s₁.setTop (entryFrame m #[(.ref aa), (.ref an), (.int p3)] 3)) (s₁.setTop (mkF m 39 #[.val (.ref aa), .val (.ref an), .val (.int p3)] [(.int (fn ((2 : Int32)).toNatClampNeg)), (.int (fa ((2 : Int32)).toNatClampNeg))])) := fun t k => pre61 t (X0.baloadBytes hx (j := (2 : Int32)) (v := .int (fn ((2 : Int32)).toNatClampNeg)) (by rw [show s₁.heap = h0 from e0]; exact Ar62.1) (State.isArrayOf_alike hZ.alike Ar62.2.1) Ar62.2.2 hin62 hv62 (g := (mkF m 38 #[.val (.ref aa), .val (.ref an), .val (.int p3)] [(.int (2 : Int32)), (.ref an), (.int (fa ((2 : Int32)).toNatClampNeg))])) rfl rfl (hb hby d5_38) t k)
        have pre64 : own_Go p e below (s₁.setTop (entryFrame m #[(.ref aa), (.ref an), (.int p3)] 3)) (s₁.setTop (mkF m 47 #[.val (.ref aa), .val (.ref an), .val (.int p3)] [(.int (1 : Int32))])) := fun t k => pre63 t (by
            show Steps p.tables e below (s₁.setTop (mkF m 39 #[.val (.ref aa), .val (.ref an), .val (.int p3)] [(.int (fn ((2 : Int32)).toNatClampNeg)), (.int (fa ((2 : Int32)).toNatClampNeg))])) _
            refine XS.icmpNo X0.here hx rfl (hb hby d5_39) rfl (XT.ii_ne_f (heq _ (own_k (k := (2 : Int32)) (by decide) (by decide) c30_56).2.2)) ?_
            show Steps p.tables e below (s₁.setTop (mkF m 42 #[.val (.ref aa), .val (.ref an), .val (.int p3)] [])) _
            refine XS.iconst X0.here hx rfl (hb hby d5_42) ?_
            show Steps p.tables e below (s₁.setTop (mkF m 43 #[.val (.ref aa), .val (.ref an), .val (.int p3)] [(.int (1 : Int32))])) _
            refine XS.goto X0.here hx rfl (pc0 := 43) (pc' := 47) rfl (hb hby d5_43) (by decide) (by decide) ?_
            exact k)
        obtain ⟨fs, hr, hrun, hended, hW, hsame⟩ := X0.leave (v := some (.int (1 : Int32))) (fun h => by rw [Bd.returns] at h; cases h)
        refine ⟨_, _, pre64 _ ?_, hrun, hended, _, _, rfl, ?_, ⟨_, rfl⟩, hW, hsame.mono (by decide) (by decide)⟩
        · show Steps p.tables e below (s₁.setTop (mkF m 47 #[.val (.ref aa), .val (.ref an), .val (.int p3)] [(.int (1 : Int32))])) _
          exact retN X0 hx (t := .boolean) Bd.returns (by simp) (hb hby d5_47) hr
        · show Q5 Z  h0 n0 _ s₁.heap _
          rw [e0]
          exact ⟨rfl, N0, rfl⟩
def Q6 (Z : State) (ab : Addr) (p2 nf nb : Int32) (fb : Nat → Int32) (h0 : Heap) (n0 : Nat) (v : Option Value) (h : Heap) (L : List Loc) : Prop := v = some (.int (nf + (1 : Int32))) ∧ Fr n0 L ∧ Keep h0 h [ab] ∧ own_A Z h ab .byte nb (own_upd fb nf.toNatClampNeg (nar .byte ((48 : Int32) + (p2 % (10 : Int32))).toInt8.toInt32))
theorem d6_0 : decode prog_17_method_3_code 0 = .ok (.iconst 1, 1) := by decide +kernel
theorem d6_1 : decode prog_17_method_3_code 1 = .ok (.istore_n 2, 1) := by decide +kernel
theorem d6_2 : decode prog_17_method_3_code 2 = .ok (.iload_n 1, 1) := by decide +kernel
theorem d6_3 : decode prog_17_method_3_code 3 = .ok (.bipush 10, 2) := by decide +kernel
theorem d6_5 : decode prog_17_method_3_code 5 = .ok (.idiv, 1) := by decide +kernel
theorem d6_6 : decode prog_17_method_3_code 6 = .ok (.istore_n 3, 1) := by decide +kernel
theorem d6_7 : decode prog_17_method_3_code 7 = .ok (.iload_n 3, 1) := by decide +kernel
theorem d6_8 : decode prog_17_method_3_code 8 = .ok (.ifCond .le 14, 3) := by decide +kernel
theorem d6_11 : decode prog_17_method_3_code 11 = .ok (.iinc 2 1, 3) := by decide +kernel
theorem d6_14 : decode prog_17_method_3_code 14 = .ok (.iload_n 3, 1) := by decide +kernel
theorem d6_15 : decode prog_17_method_3_code 15 = .ok (.bipush 10, 2) := by decide +kernel
theorem d6_17 : decode prog_17_method_3_code 17 = .ok (.idiv, 1) := by decide +kernel
theorem d6_18 : decode prog_17_method_3_code 18 = .ok (.istore_n 3, 1) := by decide +kernel
theorem d6_19 : decode prog_17_method_3_code 19 = .ok (.goto (-12), 3) := by decide +kernel
theorem d6_22 : decode prog_17_method_3_code 22 = .ok (.aload_n 0, 1) := by decide +kernel
theorem d6_23 : decode prog_17_method_3_code 23 = .ok (.getfield 23, 3) := by decide +kernel
theorem d6_26 : decode prog_17_method_3_code 26 = .ok (.iload_n 2, 1) := by decide +kernel
theorem d6_27 : decode prog_17_method_3_code 27 = .ok (.iadd, 1) := by decide +kernel
theorem d6_28 : decode prog_17_method_3_code 28 = .ok (.istore_n 3, 1) := by decide +kernel
theorem d6_29 : decode prog_17_method_3_code 29 = .ok (.iload_n 1, 1) := by decide +kernel
theorem d6_30 : decode prog_17_method_3_code 30 = .ok (.istore 4, 2) := by decide +kernel
theorem d6_32 : decode prog_17_method_3_code 32 = .ok (.iload_n 3, 1) := by decide +kernel
theorem d6_33 : decode prog_17_method_3_code 33 = .ok (.iconst 1, 1) := by decide +kernel
theorem d6_34 : decode prog_17_method_3_code 34 = .ok (.isub, 1) := by decide +kernel
theorem d6_35 : decode prog_17_method_3_code 35 = .ok (.istore 5, 2) := by decide +kernel
theorem d6_37 : decode prog_17_method_3_code 37 = .ok (.iload 5, 2) := by decide +kernel
theorem d6_39 : decode prog_17_method_3_code 39 = .ok (.aload_n 0, 1) := by decide +kernel
theorem d6_40 : decode prog_17_method_3_code 40 = .ok (.getfield 23, 3) := by decide +kernel
theorem d6_43 : decode prog_17_method_3_code 43 = .ok (.if_icmp .lt 32, 3) := by decide +kernel
theorem d6_46 : decode prog_17_method_3_code 46 = .ok (.aload_n 0, 1) := by decide +kernel
theorem d6_47 : decode prog_17_method_3_code 47 = .ok (.getfield 7, 3) := by decide +kernel
theorem d6_50 : decode prog_17_method_3_code 50 = .ok (.iload 5, 2) := by decide +kernel
theorem d6_52 : decode prog_17_method_3_code 52 = .ok (.bipush 48, 2) := by decide +kernel
theorem d6_54 : decode prog_17_method_3_code 54 = .ok (.iload 4, 2) := by decide +kernel
theorem d6_56 : decode prog_17_method_3_code 56 = .ok (.bipush 10, 2) := by decide +kernel
theorem d6_58 : decode prog_17_method_3_code 58 = .ok (.irem, 1) := by decide +kernel
theorem d6_59 : decode prog_17_method_3_code 59 = .ok (.iadd, 1) := by decide +kernel
theorem d6_60 : decode prog_17_method_3_code 60 = .ok (.i2b, 1) := by decide +kernel
theorem d6_61 : decode prog_17_method_3_code 61 = .ok (.bastore, 1) := by decide +kernel
theorem d6_62 : decode prog_17_method_3_code 62 = .ok (.iload 4, 2) := by decide +kernel
theorem d6_64 : decode prog_17_method_3_code 64 = .ok (.bipush 10, 2) := by decide +kernel
theorem d6_66 : decode prog_17_method_3_code 66 = .ok (.idiv, 1) := by decide +kernel
theorem d6_67 : decode prog_17_method_3_code 67 = .ok (.istore 4, 2) := by decide +kernel
theorem d6_69 : decode prog_17_method_3_code 69 = .ok (.iinc 5 (-1), 3) := by decide +kernel
theorem d6_72 : decode prog_17_method_3_code 72 = .ok (.goto (-35), 3) := by decide +kernel
theorem d6_75 : decode prog_17_method_3_code 75 = .ok (.iload_n 3, 1) := by decide +kernel
theorem d6_76 : decode prog_17_method_3_code 76 = .ok (.ireturn, 1) := by decide +kernel
theorem pn_6 : plainName "com/example/gyre/gyre/NodeLabel" = true := by first | (simp [plainName, overriddenIn]; done) | decide +kernel
theorem ef_6 (m : MethodId) (x0 : Addr) (x1 : Int32) : entryFrame m #[(.ref x0), (.int x1)] 6 = mkF m 0 #[.val (.ref x0), .val (.int x1), .unset, .unset, .unset, .unset] [] := by first | (simp [entryFrame, mkF, argsToLocals, Value.category]; done) | rfl
set_option maxRecDepth 65536 in
set_option maxHeartbeats 40000000 in
theorem rm6 (l : Launch) (Z : State) (a0 : Array Value) (hw : ∀ d ∈ tables_1, d.before a0 Z = true) (ws : List Jvm.Cond) (a1 ab : Addr) (p2 nf nb : Int32) (fb : Nat → Int32) (h0 : Heap) (n0 : Nat) (Z0 : n0 ≤ h0.size) (F_bytes : Fld Z h0 a1 "com/example/gyre/gyre/NodeLabel" "bytes" "[B" (.ref ab)) (F_numberFrom : Fld Z h0 a1 "com/example/gyre/gyre/NodeLabel" "numberFrom" "I" (.int nf)) (Vb : own_A Z h0 ab .byte nb fb) (gb : n0 ≤ ab) (ne2 : a1 ≠ ab) (hp : 0 ≤ p2.toInt ∧ p2.toInt ≤ 9) (hf : 1 ≤ nf.toInt ∧ nf.toInt ≤ 4) (hb' : nf.toInt + 2 ≤ nb.toInt) :
    MetFree l (⟨"com/example/gyre/gyre/NodeLabel", "withNumber", "(I)I"⟩ : MethodName) (head1 (Jvm.Cond.code (⟨"com/example/gyre/gyre/NodeLabel", "withNumber", "(I)I"⟩ : MethodName) prog_17_method_3_code 6 (some .int) :: ws) ({ frames := 0, cells := 0, slots := 0, locals := 0 } : Room)) (fun a U => a = #[(.ref a1), (.int p2)] ∧ Z.Warmed39 U.vm ∧ U.heap = h0) (fun _ _ _ _ _ => True) (fun _ U o U' => ∃ v L, o = .returned v ∧ Q6 Z ab p2 nf nb fb h0 n0 v U'.heap L ∧ FrameEnd U o U' L ({ frames := 0, cells := 0, slots := 0, locals := 0 } : Room).cells ({ frames := 0, cells := 0, slots := 0, locals := 0 } : Room).slots) := by
  refine MetFree.of_bodySF (plainFor_of_name pn_6) hisR ?_
  intro p e s m args below meth c s₁ Bd hml0 hP hK
  obtain ⟨rfl, hZ, hh⟩ := hP
  have hx := Bd.exec
  have hby := Bd.bytes
  have hml : c.maxLocals = 6 := hml0
  have hown : s.vm.findClass "com/example/gyre/gyre/NodeLabel" = some m.cls := findClass_of_methodNamed Bd.named
  have hnm := (name_of_methodNamed Bd.named Bd.method).1
  have X0 : Stand p l e ({ frames := 0, cells := 0, slots := 0, locals := 0 } : Room) s m #[(.ref a1), (.int p2)] below meth c s₁ [] 0 0 := Stand.of_body Bd
  have e0 : s₁.heap = h0 := by rw [← hh, Bd.state]; rfl
  have N0 := Fr.nil n0
  have pre0 : own_Go p e below (s₁.setTop (entryFrame m #[(.ref a1), (.int p2)] 6)) (s₁.setTop (mkF m 0 #[.val (.ref a1), .val (.int p2), .unset, .unset, .unset, .unset] [])) := fun t k => castTop (ef_6 m a1 p2) k
  have z0 : (0 : Int32).toInt = 0 := by decide
  have z1 : (1 : Int32).toInt = 1 := by decide
  have qd1 := own_div10 (x := p2) (by omega)
  have qd2 := own_div10 (x := p2 / (10 : Int32)) (by omega)
  have a1' := own_add (x := nf) (k := 1) (by omega) (by omega) (by omega) (by omega)
  have pre1 : own_Go p e below (s₁.setTop (entryFrame m #[(.ref a1), (.int p2)] 6)) (s₁.setTop (mkF m 23 #[.val (.ref a1), .val (.int p2), .val (.int (1 : Int32)), .val (.int (p2 / (10 : Int32))), .unset, .unset] [(.ref a1)])) := fun t k => pre0 t (by
      show Steps p.tables e below (s₁.setTop (mkF m 0 #[.val (.ref a1), .val (.int p2), .unset, .unset, .unset, .unset] [])) _
      refine XS.iconst X0.here hx rfl (hb hby d6_0) ?_
      show Steps p.tables e below (s₁.setTop (mkF m 1 #[.val (.ref a1), .val (.int p2), .unset, .unset, .unset, .unset] [(.int (1 : Int32))])) _
      refine XS.istoreN X0.here hx rfl (hb hby d6_1) rfl (l' := #[.val (.ref a1), .val (.int p2), .val (.int (1 : Int32)), .unset, .unset, .unset]) rfl ?_
      show Steps p.tables e below (s₁.setTop (mkF m 2 #[.val (.ref a1), .val (.int p2), .val (.int (1 : Int32)), .unset, .unset, .unset] [])) _
      refine XS.iloadN X0.here hx rfl (hb hby d6_2) rfl ?_
      show Steps p.tables e below (s₁.setTop (mkF m 3 #[.val (.ref a1), .val (.int p2), .val (.int (1 : Int32)), .unset, .unset, .unset] [(.int p2)])) _
      refine XS.bipush X0.here hx rfl (hb hby d6_3) ?_
      show Steps p.tables e below (s₁.setTop (mkF m 5 #[.val (.ref a1), .val (.int p2), .val (.int (1 : Int32)), .unset, .unset, .unset] [(.int (10 : Int32)), (.int p2)])) _
      refine XS.idiv X0.here hx rfl (hb hby d6_5) rfl (by decide) ?_
      show Steps p.tables e below (s₁.setTop (mkF m 6 #[.val (.ref a1), .val (.int p2), .val (.int (1 : Int32)), .unset, .unset, .unset] [(.int (p2 / (10 : Int32)))])) _
      refine XS.istoreN X0.here hx rfl (hb hby d6_6) rfl (l' := #[.val (.ref a1), .val (.int p2), .val (.int (1 : Int32)), .val (.int (p2 / (10 : Int32))), .unset, .unset]) rfl ?_
      show Steps p.tables e below (s₁.setTop (mkF m 7 #[.val (.ref a1), .val (.int p2), .val (.int (1 : Int32)), .val (.int (p2 / (10 : Int32))), .unset, .unset] [])) _
      refine XS.iloadN X0.here hx rfl (hb hby d6_7) rfl ?_
      show Steps p.tables e below (s₁.setTop (mkF m 8 #[.val (.ref a1), .val (.int p2), .val (.int (1 : Int32)), .val (.int (p2 / (10 : Int32))), .unset, .unset] [(.int (p2 / (10 : Int32)))])) _
      refine XS.ifYes X0.here hx rfl (pc0 := 8) (pc' := 22) rfl (hb hby d6_8) rfl (XT.i0_le_t (own_nlt (by omega))) (by decide) (by decide) ?_
      show Steps p.tables e below (s₁.setTop (mkF m 22 #[.val (.ref a1), .val (.int p2), .val (.int (1 : Int32)), .val (.int (p2 / (10 : Int32))), .unset, .unset] [])) _
      refine XS.aloadN X0.here hx rfl (hb hby d6_22) rfl rfl ?_
      exact k)
  obtain ⟨T2, X2, e2, st2⟩ := getF X0 hx hZ hown (host := "") (Or.inl (hw _ (List.mem_of_getElem? (i := 27) rfl))) Via.refl e0 F_numberFrom (g := (mkF m 23 #[.val (.ref a1), .val (.int p2), .val (.int (1 : Int32)), .val (.int (p2 / (10 : Int32))), .unset, .unset] [(.ref a1)])) rfl rfl (hb hby d6_23)
  have pre3 : own_Go p e below (s₁.setTop (entryFrame m #[(.ref a1), (.int p2)] 6)) (T2.setTop (mkF m 26 #[.val (.ref a1), .val (.int p2), .val (.int (1 : Int32)), .val (.int (p2 / (10 : Int32))), .unset, .unset] [(.int nf)])) := fun t k => pre1 t (st2 t k)
  have pre4 : own_Go p e below (s₁.setTop (entryFrame m #[(.ref a1), (.int p2)] 6)) (T2.setTop (mkF m 35 #[.val (.ref a1), .val (.int p2), .val (.int (1 : Int32)), .val (.int (nf + (1 : Int32))), .val (.int p2), .unset] [(.int ((nf + (1 : Int32)) - (1 : Int32)))])) := fun t k => pre3 t (by
      show Steps p.tables e below (T2.setTop (mkF m 26 #[.val (.ref a1), .val (.int p2), .val (.int (1 : Int32)), .val (.int (p2 / (10 : Int32))), .unset, .unset] [(.int nf)])) _
      refine XS.iloadN X2.here hx rfl (hb hby d6_26) rfl ?_
      show Steps p.tables e below (T2.setTop (mkF m 27 #[.val (.ref a1), .val (.int p2), .val (.int (1 : Int32)), .val (.int (p2 / (10 : Int32))), .unset, .unset] [(.int (1 : Int32)), (.int nf)])) _
      refine XS.iadd X2.here hx rfl (hb hby d6_27) rfl ?_
      show Steps p.tables e below (T2.setTop (mkF m 28 #[.val (.ref a1), .val (.int p2), .val (.int (1 : Int32)), .val (.int (p2 / (10 : Int32))), .unset, .unset] [(.int (nf + (1 : Int32)))])) _
      refine XS.istoreN X2.here hx rfl (hb hby d6_28) rfl (l' := #[.val (.ref a1), .val (.int p2), .val (.int (1 : Int32)), .val (.int (nf + (1 : Int32))), .unset, .unset]) rfl ?_
      show Steps p.tables e below (T2.setTop (mkF m 29 #[.val (.ref a1), .val (.int p2), .val (.int (1 : Int32)), .val (.int (nf + (1 : Int32))), .unset, .unset] [])) _
      refine XS.iloadN X2.here hx rfl (hb hby d6_29) rfl ?_
      show Steps p.tables e below (T2.setTop (mkF m 30 #[.val (.ref a1), .val (.int p2), .val (.int (1 : Int32)), .val (.int (nf + (1 : Int32))), .unset, .unset] [(.int p2)])) _
      refine XS.istore X2.here hx rfl (hb hby d6_30) rfl (l' := #[.val (.ref a1), .val (.int p2), .val (.int (1 : Int32)), .val (.int (nf + (1 : Int32))), .val (.int p2), .unset]) rfl ?_
      show Steps p.tables e below (T2.setTop (mkF m 32 #[.val (.ref a1), .val (.int p2), .val (.int (1 : Int32)), .val (.int (nf + (1 : Int32))), .val (.int p2), .unset] [])) _
      refine XS.iloadN X2.here hx rfl (hb hby d6_32) rfl ?_
      show Steps p.tables e below (T2.setTop (mkF m 33 #[.val (.ref a1), .val (.int p2), .val (.int (1 : Int32)), .val (.int (nf + (1 : Int32))), .val (.int p2), .unset] [(.int (nf + (1 : Int32)))])) _
      refine XS.iconst X2.here hx rfl (hb hby d6_33) ?_
      show Steps p.tables e below (T2.setTop (mkF m 34 #[.val (.ref a1), .val (.int p2), .val (.int (1 : Int32)), .val (.int (nf + (1 : Int32))), .val (.int p2), .unset] [(.int (1 : Int32)), (.int (nf + (1 : Int32)))])) _
      refine XS.isub X2.here hx rfl (hb hby d6_34) rfl ?_
      exact k)
  obtain ⟨ix, e_ix, pre5⟩ : ∃ ix : Int32, ix = ((nf + (1 : Int32)) - (1 : Int32)) ∧ own_Go p e below (s₁.setTop (entryFrame m #[(.ref a1), (.int p2)] 6)) (T2.setTop (mkF m 35 #[.val (.ref a1), .val (.int p2), .val (.int (1 : Int32)), .val (.int (nf + (1 : Int32))), .val (.int p2), .unset] [(.int ix)])) := ⟨_, rfl, pre4⟩
  rw [own_s1] at e_ix
  rw [e_ix] at pre5
  have pre6 : own_Go p e below (s₁.setTop (entryFrame m #[(.ref a1), (.int p2)] 6)) (T2.setTop (mkF m 40 #[.val (.ref a1), .val (.int p2), .val (.int (1 : Int32)), .val (.int (nf + (1 : Int32))), .val (.int p2), .val (.int nf)] [(.ref a1), (.int nf)])) := fun t k => pre5 t (by
      show Steps p.tables e below (T2.setTop (mkF m 35 #[.val (.ref a1), .val (.int p2), .val (.int (1 : Int32)), .val (.int (nf + (1 : Int32))), .val (.int p2), .unset] [(.int nf)])) _
      refine XS.istore X2.here hx rfl (hb hby d6_35) rfl (l' := #[.val (.ref a1), .val (.int p2), .val (.int (1 : Int32)), .val (.int (nf + (1 : Int32))), .val (.int p2), .val (.int nf)]) rfl ?_
      show Steps p.tables e below (T2.setTop (mkF m 37 #[.val (.ref a1), .val (.int p2), .val (.int (1 : Int32)), .val (.int (nf + (1 : Int32))), .val (.int p2), .val (.int nf)] [])) _
      refine XS.iload X2.here hx rfl (hb hby d6_37) rfl ?_
      show Steps p.tables e below (T2.setTop (mkF m 39 #[.val (.ref a1), .val (.int p2), .val (.int (1 : Int32)), .val (.int (nf + (1 : Int32))), .val (.int p2), .val (.int nf)] [(.int nf)])) _
      refine XS.aloadN X2.here hx rfl (hb hby d6_39) rfl rfl ?_
      exact k)
  obtain ⟨T7, X7, e7, st7⟩ := getF X2 hx hZ hown (host := "") (Or.inl (hw _ (List.mem_of_getElem? (i := 27) rfl))) Via.refl e2 F_numberFrom (g := (mkF m 40 #[.val (.ref a1), .val (.int p2), .val (.int (1 : Int32)), .val (.int (nf + (1 : Int32))), .val (.int p2), .val (.int nf)] [(.ref a1), (.int nf)])) rfl rfl (hb hby d6_40)
  have pre8 : own_Go p e below (s₁.setTop (entryFrame m #[(.ref a1), (.int p2)] 6)) (T7.setTop (mkF m 43 #[.val (.ref a1), .val (.int p2), .val (.int (1 : Int32)), .val (.int (nf + (1 : Int32))), .val (.int p2), .val (.int nf)] [(.int nf), (.int nf)])) := fun t k => pre6 t (st7 t k)
  have pre9 : own_Go p e below (s₁.setTop (entryFrame m #[(.ref a1), (.int p2)] 6)) (T7.setTop (mkF m 47 #[.val (.ref a1), .val (.int p2), .val (.int (1 : Int32)), .val (.int (nf + (1 : Int32))), .val (.int p2), .val (.int nf)] [(.ref a1)])) := fun t k => pre8 t (by
      show Steps p.tables e below (T7.setTop (mkF m 43 #[.val (.ref a1), .val (.int p2), .val (.int (1 : Int32)), .val (.int (nf + (1 : Int32))), .val (.int p2), .val (.int nf)] [(.int nf), (.int nf)])) _
      refine XS.icmpNo X7.here hx rfl (hb hby d6_43) rfl (XT.ii_lt_f (own_nlt (by omega))) ?_
      show Steps p.tables e below (T7.setTop (mkF m 46 #[.val (.ref a1), .val (.int p2), .val (.int (1 : Int32)), .val (.int (nf + (1 : Int32))), .val (.int p2), .val (.int nf)] [])) _
      refine XS.aloadN X7.here hx rfl (hb hby d6_46) rfl rfl ?_
      exact k)
  obtain ⟨T10, X10, e10, st10⟩ := getF X7 hx hZ hown (host := "") (Or.inl (hw _ (List.mem_of_getElem? (i := 14) rfl))) Via.refl e7 F_bytes (g := (mkF m 47 #[.val (.ref a1), .val (.int p2), .val (.int (1 : Int32)), .val (.int (nf + (1 : Int32))), .val (.int p2), .val (.int nf)] [(.ref a1)])) rfl rfl (hb hby d6_47)
  have pre11 : own_Go p e below (s₁.setTop (entryFrame m #[(.ref a1), (.int p2)] 6)) (T10.setTop (mkF m 50 #[.val (.ref a1), .val (.int p2), .val (.int (1 : Int32)), .val (.int (nf + (1 : Int32))), .val (.int p2), .val (.int nf)] [(.ref ab)])) := fun t k => pre9 t (st10 t k)
  have pre12 : own_Go p e below (s₁.setTop (entryFrame m #[(.ref a1), (.int p2)] 6)) (T10.setTop (mkF m 61 #[.val (.ref a1), .val (.int p2), .val (.int (1 : Int32)), .val (.int (nf + (1 : Int32))), .val (.int p2), .val (.int nf)] [(.int (((48 : Int32) + (p2 % (10 : Int32))).toInt8.toInt32)), (.int nf), (.ref ab)])) := fun t k => pre11 t (by
      show Steps p.tables e below (T10.setTop (mkF m 50 #[.val (.ref a1), .val (.int p2), .val (.int (1 : Int32)), .val (.int (nf + (1 : Int32))), .val (.int p2), .val (.int nf)] [(.ref ab)])) _
      refine XS.iload X10.here hx rfl (hb hby d6_50) rfl ?_
      show Steps p.tables e below (T10.setTop (mkF m 52 #[.val (.ref a1), .val (.int p2), .val (.int (1 : Int32)), .val (.int (nf + (1 : Int32))), .val (.int p2), .val (.int nf)] [(.int nf), (.ref ab)])) _
      refine XS.bipush X10.here hx rfl (hb hby d6_52) ?_
      show Steps p.tables e below (T10.setTop (mkF m 54 #[.val (.ref a1), .val (.int p2), .val (.int (1 : Int32)), .val (.int (nf + (1 : Int32))), .val (.int p2), .val (.int nf)] [(.int (48 : Int32)), (.int nf), (.ref ab)])) _
      refine XS.iload X10.here hx rfl (hb hby d6_54) rfl ?_
      show Steps p.tables e below (T10.setTop (mkF m 56 #[.val (.ref a1), .val (.int p2), .val (.int (1 : Int32)), .val (.int (nf + (1 : Int32))), .val (.int p2), .val (.int nf)] [(.int p2), (.int (48 : Int32)), (.int nf), (.ref ab)])) _
      refine XS.bipush X10.here hx rfl (hb hby d6_56) ?_
      show Steps p.tables e below (T10.setTop (mkF m 58 #[.val (.ref a1), .val (.int p2), .val (.int (1 : Int32)), .val (.int (nf + (1 : Int32))), .val (.int p2), .val (.int nf)] [(.int (10 : Int32)), (.int p2), (.int (48 : Int32)), (.int nf), (.ref ab)])) _
      refine iremM X10 hx rfl (hb hby d6_58) rfl (by decide) ?_
      show Steps p.tables e below (T10.setTop (mkF m 59 #[.val (.ref a1), .val (.int p2), .val (.int (1 : Int32)), .val (.int (nf + (1 : Int32))), .val (.int p2), .val (.int nf)] [(.int (p2 % (10 : Int32))), (.int (48 : Int32)), (.int nf), (.ref ab)])) _
      refine XS.iadd X10.here hx rfl (hb hby d6_59) rfl ?_
      show Steps p.tables e below (T10.setTop (mkF m 60 #[.val (.ref a1), .val (.int p2), .val (.int (1 : Int32)), .val (.int (nf + (1 : Int32))), .val (.int p2), .val (.int nf)] [(.int ((48 : Int32) + (p2 % (10 : Int32)))), (.int nf), (.ref ab)])) _
      refine XT.i2b X10.here hx rfl (hb hby d6_60) rfl ?_
      exact k)
  obtain ⟨cl13, Ar13, hin13, -⟩ := own_A.at Vb (j := nf) (own_n0 (by omega)) (own_lt (by omega))
  obtain ⟨T13, h13, X13, e13, W13, st13⟩ := stB X10 hx hZ e10 Ar13 (j := nf) hin13 (g := (mkF m 61 #[.val (.ref a1), .val (.int p2), .val (.int (1 : Int32)), .val (.int (nf + (1 : Int32))), .val (.int p2), .val (.int nf)] [(.int (((48 : Int32) + (p2 % (10 : Int32))).toInt8.toInt32)), (.int nf), (.ref ab)])) rfl rfl (hb hby d6_61)
  have N13 := Fr.snoc X13 N0 gb
  have pre14 : own_Go p e below (s₁.setTop (entryFrame m #[(.ref a1), (.int p2)] 6)) (T13.setTop (mkF m 62 #[.val (.ref a1), .val (.int p2), .val (.int (1 : Int32)), .val (.int (nf + (1 : Int32))), .val (.int p2), .val (.int nf)] [])) := fun t k => pre12 t (st13 t k)
  have V_15 := own_A.set Vb W13 (fits_nar_byte _)
  have F_16 := F_bytes.other W13 (Or.inl ne2)
  have F_17 := F_numberFrom.other W13 (Or.inl ne2)
  have K_18 := (Keep.refl h0 [ab]).wr W13 (Or.inl (List.mem_of_getElem? (i := 0) rfl))
  have pre19 : own_Go p e below (s₁.setTop (entryFrame m #[(.ref a1), (.int p2)] 6)) (T13.setTop (mkF m 40 #[.val (.ref a1), .val (.int p2), .val (.int (1 : Int32)), .val (.int (nf + (1 : Int32))), .val (.int (p2 / (10 : Int32))), .val (.int (nf + (-1 : Int32)))] [(.ref a1), (.int (nf + (-1 : Int32)))])) := fun t k => pre14 t (by
      show Steps p.tables e below (T13.setTop (mkF m 62 #[.val (.ref a1), .val (.int p2), .val (.int (1 : Int32)), .val (.int (nf + (1 : Int32))), .val (.int p2), .val (.int nf)] [])) _
      refine XS.iload X13.here hx rfl (hb hby d6_62) rfl ?_
      show Steps p.tables e below (T13.setTop (mkF m 64 #[.val (.ref a1), .val (.int p2), .val (.int (1 : Int32)), .val (.int (nf + (1 : Int32))), .val (.int p2), .val (.int nf)] [(.int p2)])) _
      refine XS.bipush X13.here hx rfl (hb hby d6_64) ?_
      show Steps p.tables e below (T13.setTop (mkF m 66 #[.val (.ref a1), .val (.int p2), .val (.int (1 : Int32)), .val (.int (nf + (1 : Int32))), .val (.int p2), .val (.int nf)] [(.int (10 : Int32)), (.int p2)])) _
      refine XS.idiv X13.here hx rfl (hb hby d6_66) rfl (by decide) ?_
      show Steps p.tables e below (T13.setTop (mkF m 67 #[.val (.ref a1), .val (.int p2), .val (.int (1 : Int32)), .val (.int (nf + (1 : Int32))), .val (.int p2), .val (.int nf)] [(.int (p2 / (10 : Int32)))])) _
      refine XS.istore X13.here hx rfl (hb hby d6_67) rfl (l' := #[.val (.ref a1), .val (.int p2), .val (.int (1 : Int32)), .val (.int (nf + (1 : Int32))), .val (.int (p2 / (10 : Int32))), .val (.int nf)]) rfl ?_
      show Steps p.tables e below (T13.setTop (mkF m 69 #[.val (.ref a1), .val (.int p2), .val (.int (1 : Int32)), .val (.int (nf + (1 : Int32))), .val (.int (p2 / (10 : Int32))), .val (.int nf)] [])) _
      refine XT.iincV X13.here hx rfl (-1 : Int32) (hb hby d6_69) (by decide) rfl (l' := #[.val (.ref a1), .val (.int p2), .val (.int (1 : Int32)), .val (.int (nf + (1 : Int32))), .val (.int (p2 / (10 : Int32))), .val (.int (nf + (-1 : Int32)))]) rfl ?_
      show Steps p.tables e below (T13.setTop (mkF m 72 #[.val (.ref a1), .val (.int p2), .val (.int (1 : Int32)), .val (.int (nf + (1 : Int32))), .val (.int (p2 / (10 : Int32))), .val (.int (nf + (-1 : Int32)))] [])) _
      refine XS.goto X13.here hx rfl (pc0 := 72) (pc' := 37) rfl (hb hby d6_72) (by decide) (by decide) ?_
      show Steps p.tables e below (T13.setTop (mkF m 37 #[.val (.ref a1), .val (.int p2), .val (.int (1 : Int32)), .val (.int (nf + (1 : Int32))), .val (.int (p2 / (10 : Int32))), .val (.int (nf + (-1 : Int32)))] [])) _
      refine XS.iload X13.here hx rfl (hb hby d6_37) rfl ?_
      show Steps p.tables e below (T13.setTop (mkF m 39 #[.val (.ref a1), .val (.int p2), .val (.int (1 : Int32)), .val (.int (nf + (1 : Int32))), .val (.int (p2 / (10 : Int32))), .val (.int (nf + (-1 : Int32)))] [(.int (nf + (-1 : Int32)))])) _
      refine XS.aloadN X13.here hx rfl (hb hby d6_39) rfl rfl ?_
      exact k)
  obtain ⟨T20, X20, e20, st20⟩ := getF X13 hx hZ hown (host := "") (Or.inl (hw _ (List.mem_of_getElem? (i := 27) rfl))) Via.refl e13 F_17 (g := (mkF m 40 #[.val (.ref a1), .val (.int p2), .val (.int (1 : Int32)), .val (.int (nf + (1 : Int32))), .val (.int (p2 / (10 : Int32))), .val (.int (nf + (-1 : Int32)))] [(.ref a1), (.int (nf + (-1 : Int32)))])) rfl rfl (hb hby d6_40)
  have pre21 : own_Go p e below (s₁.setTop (entryFrame m #[(.ref a1), (.int p2)] 6)) (T20.setTop (mkF m 43 #[.val (.ref a1), .val (.int p2), .val (.int (1 : Int32)), .val (.int (nf + (1 : Int32))), .val (.int (p2 / (10 : Int32))), .val (.int (nf + (-1 : Int32)))] [(.int nf), (.int (nf + (-1 : Int32)))])) := fun t k => pre19 t (st20 t k)
  have pre22 : own_Go p e below (s₁.setTop (entryFrame m #[(.ref a1), (.int p2)] 6)) (T20.setTop (mkF m 76 #[.val (.ref a1), .val (.int p2), .val (.int (1 : Int32)), .val (.int (nf + (1 : Int32))), .val (.int (p2 / (10 : Int32))), .val (.int (nf + (-1 : Int32)))] [(.int (nf + (1 : Int32)))])) := fun t k => pre21 t (by
      show Steps p.tables e below (T20.setTop (mkF m 43 #[.val (.ref a1), .val (.int p2), .val (.int (1 : Int32)), .val (.int (nf + (1 : Int32))), .val (.int (p2 / (10 : Int32))), .val (.int (nf + (-1 : Int32)))] [(.int nf), (.int (nf + (-1 : Int32)))])) _
      refine XS.icmpYes X20.here hx rfl (pc0 := 43) (pc' := 75) rfl (hb hby d6_43) rfl (XT.ii_lt_t (own_m1lt hf.1 (Int.le_trans hf.2 (by decide)))) (by decide) (by decide) ?_
      show Steps p.tables e below (T20.setTop (mkF m 75 #[.val (.ref a1), .val (.int p2), .val (.int (1 : Int32)), .val (.int (nf + (1 : Int32))), .val (.int (p2 / (10 : Int32))), .val (.int (nf + (-1 : Int32)))] [])) _
      refine XS.iloadN X20.here hx rfl (hb hby d6_75) rfl ?_
      exact k)
  obtain ⟨fs, hr, hrun, hended, hW, hsame⟩ := X20.leave (v := some (.int (nf + (1 : Int32)))) (fun h => by rw [Bd.returns] at h; cases h)
  refine ⟨_, _, pre22 _ ?_, hrun, hended, _, _, rfl, ?_, ⟨_, rfl⟩, hW, hsame.mono (by decide) (by decide)⟩
  · show Steps p.tables e below (T20.setTop (mkF m 76 #[.val (.ref a1), .val (.int p2), .val (.int (1 : Int32)), .val (.int (nf + (1 : Int32))), .val (.int (p2 / (10 : Int32))), .val (.int (nf + (-1 : Int32)))] [(.int (nf + (1 : Int32)))])) _
    exact retI X20 hx Bd.returns (hb hby d6_76) hr
  · show Q6 Z ab p2 nf nb fb h0 n0 _ T20.heap _
    rw [e20]
    exact ⟨rfl, N13, K_18, V_15⟩
def Q8 (Z : State) (ab : Addr) (p2 nf nb : Int32) (fb : Nat → Int32) (h0 : Heap) (n0 : Nat) (v : Option Value) (h : Heap) (L : List Loc) : Prop := v = some (.int (nf + (2 : Int32))) ∧ Fr n0 L ∧ Keep h0 h [ab] ∧ own_A Z h ab .byte nb (own_upd (own_upd fb (nf + (1 : Int32)).toNatClampNeg (nar .byte ((48 : Int32) + (p2 % (10 : Int32))).toInt8.toInt32)) nf.toNatClampNeg (nar .byte ((48 : Int32) + ((p2 / (10 : Int32)) % (10 : Int32))).toInt8.toInt32))
theorem d8_0 : decode prog_17_method_3_code 0 = .ok (.iconst 1, 1) := by decide +kernel
theorem d8_1 : decode prog_17_method_3_code 1 = .ok (.istore_n 2, 1) := by decide +kernel
theorem d8_2 : decode prog_17_method_3_code 2 = .ok (.iload_n 1, 1) := by decide +kernel
theorem d8_3 : decode prog_17_method_3_code 3 = .ok (.bipush 10, 2) := by decide +kernel
theorem d8_5 : decode prog_17_method_3_code 5 = .ok (.idiv, 1) := by decide +kernel
theorem d8_6 : decode prog_17_method_3_code 6 = .ok (.istore_n 3, 1) := by decide +kernel
theorem d8_7 : decode prog_17_method_3_code 7 = .ok (.iload_n 3, 1) := by decide +kernel
theorem d8_8 : decode prog_17_method_3_code 8 = .ok (.ifCond .le 14, 3) := by decide +kernel
theorem d8_11 : decode prog_17_method_3_code 11 = .ok (.iinc 2 1, 3) := by decide +kernel
theorem d8_14 : decode prog_17_method_3_code 14 = .ok (.iload_n 3, 1) := by decide +kernel
theorem d8_15 : decode prog_17_method_3_code 15 = .ok (.bipush 10, 2) := by decide +kernel
theorem d8_17 : decode prog_17_method_3_code 17 = .ok (.idiv, 1) := by decide +kernel
theorem d8_18 : decode prog_17_method_3_code 18 = .ok (.istore_n 3, 1) := by decide +kernel
theorem d8_19 : decode prog_17_method_3_code 19 = .ok (.goto (-12), 3) := by decide +kernel
theorem d8_22 : decode prog_17_method_3_code 22 = .ok (.aload_n 0, 1) := by decide +kernel
theorem d8_23 : decode prog_17_method_3_code 23 = .ok (.getfield 23, 3) := by decide +kernel
theorem d8_26 : decode prog_17_method_3_code 26 = .ok (.iload_n 2, 1) := by decide +kernel
theorem d8_27 : decode prog_17_method_3_code 27 = .ok (.iadd, 1) := by decide +kernel
theorem d8_28 : decode prog_17_method_3_code 28 = .ok (.istore_n 3, 1) := by decide +kernel
theorem d8_29 : decode prog_17_method_3_code 29 = .ok (.iload_n 1, 1) := by decide +kernel
theorem d8_30 : decode prog_17_method_3_code 30 = .ok (.istore 4, 2) := by decide +kernel
theorem d8_32 : decode prog_17_method_3_code 32 = .ok (.iload_n 3, 1) := by decide +kernel
theorem d8_33 : decode prog_17_method_3_code 33 = .ok (.iconst 1, 1) := by decide +kernel
theorem d8_34 : decode prog_17_method_3_code 34 = .ok (.isub, 1) := by decide +kernel
theorem d8_35 : decode prog_17_method_3_code 35 = .ok (.istore 5, 2) := by decide +kernel
theorem d8_37 : decode prog_17_method_3_code 37 = .ok (.iload 5, 2) := by decide +kernel
theorem d8_39 : decode prog_17_method_3_code 39 = .ok (.aload_n 0, 1) := by decide +kernel
theorem d8_40 : decode prog_17_method_3_code 40 = .ok (.getfield 23, 3) := by decide +kernel
theorem d8_43 : decode prog_17_method_3_code 43 = .ok (.if_icmp .lt 32, 3) := by decide +kernel
theorem d8_46 : decode prog_17_method_3_code 46 = .ok (.aload_n 0, 1) := by decide +kernel
theorem d8_47 : decode prog_17_method_3_code 47 = .ok (.getfield 7, 3) := by decide +kernel
theorem d8_50 : decode prog_17_method_3_code 50 = .ok (.iload 5, 2) := by decide +kernel
theorem d8_52 : decode prog_17_method_3_code 52 = .ok (.bipush 48, 2) := by decide +kernel
theorem d8_54 : decode prog_17_method_3_code 54 = .ok (.iload 4, 2) := by decide +kernel
theorem d8_56 : decode prog_17_method_3_code 56 = .ok (.bipush 10, 2) := by decide +kernel
theorem d8_58 : decode prog_17_method_3_code 58 = .ok (.irem, 1) := by decide +kernel
theorem d8_59 : decode prog_17_method_3_code 59 = .ok (.iadd, 1) := by decide +kernel
theorem d8_60 : decode prog_17_method_3_code 60 = .ok (.i2b, 1) := by decide +kernel
theorem d8_61 : decode prog_17_method_3_code 61 = .ok (.bastore, 1) := by decide +kernel
theorem d8_62 : decode prog_17_method_3_code 62 = .ok (.iload 4, 2) := by decide +kernel
theorem d8_64 : decode prog_17_method_3_code 64 = .ok (.bipush 10, 2) := by decide +kernel
theorem d8_66 : decode prog_17_method_3_code 66 = .ok (.idiv, 1) := by decide +kernel
theorem d8_67 : decode prog_17_method_3_code 67 = .ok (.istore 4, 2) := by decide +kernel
theorem d8_69 : decode prog_17_method_3_code 69 = .ok (.iinc 5 (-1), 3) := by decide +kernel
theorem d8_72 : decode prog_17_method_3_code 72 = .ok (.goto (-35), 3) := by decide +kernel
theorem d8_75 : decode prog_17_method_3_code 75 = .ok (.iload_n 3, 1) := by decide +kernel
theorem d8_76 : decode prog_17_method_3_code 76 = .ok (.ireturn, 1) := by decide +kernel
theorem pn_8 : plainName "com/example/gyre/gyre/NodeLabel" = true := by first | (simp [plainName, overriddenIn]; done) | decide +kernel
theorem ef_8 (m : MethodId) (x0 : Addr) (x1 : Int32) : entryFrame m #[(.ref x0), (.int x1)] 6 = mkF m 0 #[.val (.ref x0), .val (.int x1), .unset, .unset, .unset, .unset] [] := by first | (simp [entryFrame, mkF, argsToLocals, Value.category]; done) | rfl
set_option maxRecDepth 65536 in
set_option maxHeartbeats 40000000 in
theorem rm8 (l : Launch) (Z : State) (a0 : Array Value) (hw : ∀ d ∈ tables_1, d.before a0 Z = true) (ws : List Jvm.Cond) (a1 ab : Addr) (p2 nf nb : Int32) (fb : Nat → Int32) (h0 : Heap) (n0 : Nat) (Z0 : n0 ≤ h0.size) (F_bytes : Fld Z h0 a1 "com/example/gyre/gyre/NodeLabel" "bytes" "[B" (.ref ab)) (F_numberFrom : Fld Z h0 a1 "com/example/gyre/gyre/NodeLabel" "numberFrom" "I" (.int nf)) (Vb : own_A Z h0 ab .byte nb fb) (gb : n0 ≤ ab) (ne2 : a1 ≠ ab) (hp : 10 ≤ p2.toInt ∧ p2.toInt ≤ 99) (hf : 1 ≤ nf.toInt ∧ nf.toInt ≤ 4) (hb' : nf.toInt + 2 ≤ nb.toInt) :
    MetFree l (⟨"com/example/gyre/gyre/NodeLabel", "withNumber", "(I)I"⟩ : MethodName) (head1 (Jvm.Cond.code (⟨"com/example/gyre/gyre/NodeLabel", "withNumber", "(I)I"⟩ : MethodName) prog_17_method_3_code 6 (some .int) :: ws) ({ frames := 0, cells := 0, slots := 0, locals := 0 } : Room)) (fun a U => a = #[(.ref a1), (.int p2)] ∧ Z.Warmed39 U.vm ∧ U.heap = h0) (fun _ _ _ _ _ => True) (fun _ U o U' => ∃ v L, o = .returned v ∧ Q8 Z ab p2 nf nb fb h0 n0 v U'.heap L ∧ FrameEnd U o U' L ({ frames := 0, cells := 0, slots := 0, locals := 0 } : Room).cells ({ frames := 0, cells := 0, slots := 0, locals := 0 } : Room).slots) := by
  refine MetFree.of_bodySF (plainFor_of_name pn_8) hisR ?_
  intro p e s m args below meth c s₁ Bd hml0 hP hK
  obtain ⟨rfl, hZ, hh⟩ := hP
  have hx := Bd.exec
  have hby := Bd.bytes
  have hml : c.maxLocals = 6 := hml0
  have hown : s.vm.findClass "com/example/gyre/gyre/NodeLabel" = some m.cls := findClass_of_methodNamed Bd.named
  have hnm := (name_of_methodNamed Bd.named Bd.method).1
  have X0 : Stand p l e ({ frames := 0, cells := 0, slots := 0, locals := 0 } : Room) s m #[(.ref a1), (.int p2)] below meth c s₁ [] 0 0 := Stand.of_body Bd
  have e0 : s₁.heap = h0 := by rw [← hh, Bd.state]; rfl
  have N0 := Fr.nil n0
  have pre0 : own_Go p e below (s₁.setTop (entryFrame m #[(.ref a1), (.int p2)] 6)) (s₁.setTop (mkF m 0 #[.val (.ref a1), .val (.int p2), .unset, .unset, .unset, .unset] [])) := fun t k => castTop (ef_8 m a1 p2) k
  have z0 : (0 : Int32).toInt = 0 := by decide
  have z1 : (1 : Int32).toInt = 1 := by decide
  have qd1 := own_div10 (x := p2) (by omega)
  have qd2 := own_div10 (x := p2 / (10 : Int32)) (by omega)
  have a1' := own_add (x := nf) (k := 1) (by omega) (by omega) (by omega) (by omega)
  have pre1 : own_Go p e below (s₁.setTop (entryFrame m #[(.ref a1), (.int p2)] 6)) (s₁.setTop (mkF m 23 #[.val (.ref a1), .val (.int p2), .val (.int ((1 : Int32) + (1 : Int32))), .val (.int ((p2 / (10 : Int32)) / (10 : Int32))), .unset, .unset] [(.ref a1)])) := fun t k => pre0 t (by
      show Steps p.tables e below (s₁.setTop (mkF m 0 #[.val (.ref a1), .val (.int p2), .unset, .unset, .unset, .unset] [])) _
      refine XS.iconst X0.here hx rfl (hb hby d8_0) ?_
      show Steps p.tables e below (s₁.setTop (mkF m 1 #[.val (.ref a1), .val (.int p2), .unset, .unset, .unset, .unset] [(.int (1 : Int32))])) _
      refine XS.istoreN X0.here hx rfl (hb hby d8_1) rfl (l' := #[.val (.ref a1), .val (.int p2), .val (.int (1 : Int32)), .unset, .unset, .unset]) rfl ?_
      show Steps p.tables e below (s₁.setTop (mkF m 2 #[.val (.ref a1), .val (.int p2), .val (.int (1 : Int32)), .unset, .unset, .unset] [])) _
      refine XS.iloadN X0.here hx rfl (hb hby d8_2) rfl ?_
      show Steps p.tables e below (s₁.setTop (mkF m 3 #[.val (.ref a1), .val (.int p2), .val (.int (1 : Int32)), .unset, .unset, .unset] [(.int p2)])) _
      refine XS.bipush X0.here hx rfl (hb hby d8_3) ?_
      show Steps p.tables e below (s₁.setTop (mkF m 5 #[.val (.ref a1), .val (.int p2), .val (.int (1 : Int32)), .unset, .unset, .unset] [(.int (10 : Int32)), (.int p2)])) _
      refine XS.idiv X0.here hx rfl (hb hby d8_5) rfl (by decide) ?_
      show Steps p.tables e below (s₁.setTop (mkF m 6 #[.val (.ref a1), .val (.int p2), .val (.int (1 : Int32)), .unset, .unset, .unset] [(.int (p2 / (10 : Int32)))])) _
      refine XS.istoreN X0.here hx rfl (hb hby d8_6) rfl (l' := #[.val (.ref a1), .val (.int p2), .val (.int (1 : Int32)), .val (.int (p2 / (10 : Int32))), .unset, .unset]) rfl ?_
      show Steps p.tables e below (s₁.setTop (mkF m 7 #[.val (.ref a1), .val (.int p2), .val (.int (1 : Int32)), .val (.int (p2 / (10 : Int32))), .unset, .unset] [])) _
      refine XS.iloadN X0.here hx rfl (hb hby d8_7) rfl ?_
      show Steps p.tables e below (s₁.setTop (mkF m 8 #[.val (.ref a1), .val (.int p2), .val (.int (1 : Int32)), .val (.int (p2 / (10 : Int32))), .unset, .unset] [(.int (p2 / (10 : Int32)))])) _
      refine XS.ifNo X0.here hx rfl (hb hby d8_8) rfl (XT.i0_le_f (own_lt (by omega))) ?_
      show Steps p.tables e below (s₁.setTop (mkF m 11 #[.val (.ref a1), .val (.int p2), .val (.int (1 : Int32)), .val (.int (p2 / (10 : Int32))), .unset, .unset] [])) _
      refine XT.iincV X0.here hx rfl (1 : Int32) (hb hby d8_11) (by decide) rfl (l' := #[.val (.ref a1), .val (.int p2), .val (.int ((1 : Int32) + (1 : Int32))), .val (.int (p2 / (10 : Int32))), .unset, .unset]) rfl ?_
      show Steps p.tables e below (s₁.setTop (mkF m 14 #[.val (.ref a1), .val (.int p2), .val (.int ((1 : Int32) + (1 : Int32))), .val (.int (p2 / (10 : Int32))), .unset, .unset] [])) _
      refine XS.iloadN X0.here hx rfl (hb hby d8_14) rfl ?_
      show Steps p.tables e below (s₁.setTop (mkF m 15 #[.val (.ref a1), .val (.int p2), .val (.int ((1 : Int32) + (1 : Int32))), .val (.int (p2 / (10 : Int32))), .unset, .unset] [(.int (p2 / (10 : Int32)))])) _
      refine XS.bipush X0.here hx rfl (hb hby d8_15) ?_
      show Steps p.tables e below (s₁.setTop (mkF m 17 #[.val (.ref a1), .val (.int p2), .val (.int ((1 : Int32) + (1 : Int32))), .val (.int (p2 / (10 : Int32))), .unset, .unset] [(.int (10 : Int32)), (.int (p2 / (10 : Int32)))])) _
      refine XS.idiv X0.here hx rfl (hb hby d8_17) rfl (by decide) ?_
      show Steps p.tables e below (s₁.setTop (mkF m 18 #[.val (.ref a1), .val (.int p2), .val (.int ((1 : Int32) + (1 : Int32))), .val (.int (p2 / (10 : Int32))), .unset, .unset] [(.int ((p2 / (10 : Int32)) / (10 : Int32)))])) _
      refine XS.istoreN X0.here hx rfl (hb hby d8_18) rfl (l' := #[.val (.ref a1), .val (.int p2), .val (.int ((1 : Int32) + (1 : Int32))), .val (.int ((p2 / (10 : Int32)) / (10 : Int32))), .unset, .unset]) rfl ?_
      show Steps p.tables e below (s₁.setTop (mkF m 19 #[.val (.ref a1), .val (.int p2), .val (.int ((1 : Int32) + (1 : Int32))), .val (.int ((p2 / (10 : Int32)) / (10 : Int32))), .unset, .unset] [])) _
      refine XS.goto X0.here hx rfl (pc0 := 19) (pc' := 7) rfl (hb hby d8_19) (by decide) (by decide) ?_
      show Steps p.tables e below (s₁.setTop (mkF m 7 #[.val (.ref a1), .val (.int p2), .val (.int ((1 : Int32) + (1 : Int32))), .val (.int ((p2 / (10 : Int32)) / (10 : Int32))), .unset, .unset] [])) _
      refine XS.iloadN X0.here hx rfl (hb hby d8_7) rfl ?_
      show Steps p.tables e below (s₁.setTop (mkF m 8 #[.val (.ref a1), .val (.int p2), .val (.int ((1 : Int32) + (1 : Int32))), .val (.int ((p2 / (10 : Int32)) / (10 : Int32))), .unset, .unset] [(.int ((p2 / (10 : Int32)) / (10 : Int32)))])) _
      refine XS.ifYes X0.here hx rfl (pc0 := 8) (pc' := 22) rfl (hb hby d8_8) rfl (XT.i0_le_t (own_nlt (by omega))) (by decide) (by decide) ?_
      show Steps p.tables e below (s₁.setTop (mkF m 22 #[.val (.ref a1), .val (.int p2), .val (.int ((1 : Int32) + (1 : Int32))), .val (.int ((p2 / (10 : Int32)) / (10 : Int32))), .unset, .unset] [])) _
      refine XS.aloadN X0.here hx rfl (hb hby d8_22) rfl rfl ?_
      exact k)
  obtain ⟨T2, X2, e2, st2⟩ := getF X0 hx hZ hown (host := "") (Or.inl (hw _ (List.mem_of_getElem? (i := 27) rfl))) Via.refl e0 F_numberFrom (g := (mkF m 23 #[.val (.ref a1), .val (.int p2), .val (.int ((1 : Int32) + (1 : Int32))), .val (.int ((p2 / (10 : Int32)) / (10 : Int32))), .unset, .unset] [(.ref a1)])) rfl rfl (hb hby d8_23)
  have pre3 : own_Go p e below (s₁.setTop (entryFrame m #[(.ref a1), (.int p2)] 6)) (T2.setTop (mkF m 26 #[.val (.ref a1), .val (.int p2), .val (.int ((1 : Int32) + (1 : Int32))), .val (.int ((p2 / (10 : Int32)) / (10 : Int32))), .unset, .unset] [(.int nf)])) := fun t k => pre1 t (st2 t k)
  have pre4 : own_Go p e below (s₁.setTop (entryFrame m #[(.ref a1), (.int p2)] 6)) (T2.setTop (mkF m 28 #[.val (.ref a1), .val (.int p2), .val (.int ((1 : Int32) + (1 : Int32))), .val (.int ((p2 / (10 : Int32)) / (10 : Int32))), .unset, .unset] [(.int (nf + ((1 : Int32) + (1 : Int32))))])) := fun t k => pre3 t (by
      show Steps p.tables e below (T2.setTop (mkF m 26 #[.val (.ref a1), .val (.int p2), .val (.int ((1 : Int32) + (1 : Int32))), .val (.int ((p2 / (10 : Int32)) / (10 : Int32))), .unset, .unset] [(.int nf)])) _
      refine XS.iloadN X2.here hx rfl (hb hby d8_26) rfl ?_
      show Steps p.tables e below (T2.setTop (mkF m 27 #[.val (.ref a1), .val (.int p2), .val (.int ((1 : Int32) + (1 : Int32))), .val (.int ((p2 / (10 : Int32)) / (10 : Int32))), .unset, .unset] [(.int ((1 : Int32) + (1 : Int32))), (.int nf)])) _
      refine XS.iadd X2.here hx rfl (hb hby d8_27) rfl ?_
      exact k)
  obtain ⟨en, e_en, pre5⟩ : ∃ en : Int32, en = (nf + ((1 : Int32) + (1 : Int32))) ∧ own_Go p e below (s₁.setTop (entryFrame m #[(.ref a1), (.int p2)] 6)) (T2.setTop (mkF m 28 #[.val (.ref a1), .val (.int p2), .val (.int ((1 : Int32) + (1 : Int32))), .val (.int ((p2 / (10 : Int32)) / (10 : Int32))), .unset, .unset] [(.int en)])) := ⟨_, rfl, pre4⟩
  rw [show (1 : Int32) + (1 : Int32) = 2 by decide] at e_en
  rw [e_en] at pre5
  have pre6 : own_Go p e below (s₁.setTop (entryFrame m #[(.ref a1), (.int p2)] 6)) (T2.setTop (mkF m 35 #[.val (.ref a1), .val (.int p2), .val (.int ((1 : Int32) + (1 : Int32))), .val (.int (nf + (2 : Int32))), .val (.int p2), .unset] [(.int ((nf + (2 : Int32)) - (1 : Int32)))])) := fun t k => pre5 t (by
      show Steps p.tables e below (T2.setTop (mkF m 28 #[.val (.ref a1), .val (.int p2), .val (.int ((1 : Int32) + (1 : Int32))), .val (.int ((p2 / (10 : Int32)) / (10 : Int32))), .unset, .unset] [(.int (nf + (2 : Int32)))])) _
      refine XS.istoreN X2.here hx rfl (hb hby d8_28) rfl (l' := #[.val (.ref a1), .val (.int p2), .val (.int ((1 : Int32) + (1 : Int32))), .val (.int (nf + (2 : Int32))), .unset, .unset]) rfl ?_
      show Steps p.tables e below (T2.setTop (mkF m 29 #[.val (.ref a1), .val (.int p2), .val (.int ((1 : Int32) + (1 : Int32))), .val (.int (nf + (2 : Int32))), .unset, .unset] [])) _
      refine XS.iloadN X2.here hx rfl (hb hby d8_29) rfl ?_
      show Steps p.tables e below (T2.setTop (mkF m 30 #[.val (.ref a1), .val (.int p2), .val (.int ((1 : Int32) + (1 : Int32))), .val (.int (nf + (2 : Int32))), .unset, .unset] [(.int p2)])) _
      refine XS.istore X2.here hx rfl (hb hby d8_30) rfl (l' := #[.val (.ref a1), .val (.int p2), .val (.int ((1 : Int32) + (1 : Int32))), .val (.int (nf + (2 : Int32))), .val (.int p2), .unset]) rfl ?_
      show Steps p.tables e below (T2.setTop (mkF m 32 #[.val (.ref a1), .val (.int p2), .val (.int ((1 : Int32) + (1 : Int32))), .val (.int (nf + (2 : Int32))), .val (.int p2), .unset] [])) _
      refine XS.iloadN X2.here hx rfl (hb hby d8_32) rfl ?_
      show Steps p.tables e below (T2.setTop (mkF m 33 #[.val (.ref a1), .val (.int p2), .val (.int ((1 : Int32) + (1 : Int32))), .val (.int (nf + (2 : Int32))), .val (.int p2), .unset] [(.int (nf + (2 : Int32)))])) _
      refine XS.iconst X2.here hx rfl (hb hby d8_33) ?_
      show Steps p.tables e below (T2.setTop (mkF m 34 #[.val (.ref a1), .val (.int p2), .val (.int ((1 : Int32) + (1 : Int32))), .val (.int (nf + (2 : Int32))), .val (.int p2), .unset] [(.int (1 : Int32)), (.int (nf + (2 : Int32)))])) _
      refine XS.isub X2.here hx rfl (hb hby d8_34) rfl ?_
      exact k)
  obtain ⟨ix, e_ix, pre7⟩ : ∃ ix : Int32, ix = ((nf + (2 : Int32)) - (1 : Int32)) ∧ own_Go p e below (s₁.setTop (entryFrame m #[(.ref a1), (.int p2)] 6)) (T2.setTop (mkF m 35 #[.val (.ref a1), .val (.int p2), .val (.int ((1 : Int32) + (1 : Int32))), .val (.int (nf + (2 : Int32))), .val (.int p2), .unset] [(.int ix)])) := ⟨_, rfl, pre6⟩
  rw [own_s2] at e_ix
  rw [e_ix] at pre7
  have pre8 : own_Go p e below (s₁.setTop (entryFrame m #[(.ref a1), (.int p2)] 6)) (T2.setTop (mkF m 40 #[.val (.ref a1), .val (.int p2), .val (.int ((1 : Int32) + (1 : Int32))), .val (.int (nf + (2 : Int32))), .val (.int p2), .val (.int (nf + (1 : Int32)))] [(.ref a1), (.int (nf + (1 : Int32)))])) := fun t k => pre7 t (by
      show Steps p.tables e below (T2.setTop (mkF m 35 #[.val (.ref a1), .val (.int p2), .val (.int ((1 : Int32) + (1 : Int32))), .val (.int (nf + (2 : Int32))), .val (.int p2), .unset] [(.int (nf + (1 : Int32)))])) _
      refine XS.istore X2.here hx rfl (hb hby d8_35) rfl (l' := #[.val (.ref a1), .val (.int p2), .val (.int ((1 : Int32) + (1 : Int32))), .val (.int (nf + (2 : Int32))), .val (.int p2), .val (.int (nf + (1 : Int32)))]) rfl ?_
      show Steps p.tables e below (T2.setTop (mkF m 37 #[.val (.ref a1), .val (.int p2), .val (.int ((1 : Int32) + (1 : Int32))), .val (.int (nf + (2 : Int32))), .val (.int p2), .val (.int (nf + (1 : Int32)))] [])) _
      refine XS.iload X2.here hx rfl (hb hby d8_37) rfl ?_
      show Steps p.tables e below (T2.setTop (mkF m 39 #[.val (.ref a1), .val (.int p2), .val (.int ((1 : Int32) + (1 : Int32))), .val (.int (nf + (2 : Int32))), .val (.int p2), .val (.int (nf + (1 : Int32)))] [(.int (nf + (1 : Int32)))])) _
      refine XS.aloadN X2.here hx rfl (hb hby d8_39) rfl rfl ?_
      exact k)
  obtain ⟨T9, X9, e9, st9⟩ := getF X2 hx hZ hown (host := "") (Or.inl (hw _ (List.mem_of_getElem? (i := 27) rfl))) Via.refl e2 F_numberFrom (g := (mkF m 40 #[.val (.ref a1), .val (.int p2), .val (.int ((1 : Int32) + (1 : Int32))), .val (.int (nf + (2 : Int32))), .val (.int p2), .val (.int (nf + (1 : Int32)))] [(.ref a1), (.int (nf + (1 : Int32)))])) rfl rfl (hb hby d8_40)
  have pre10 : own_Go p e below (s₁.setTop (entryFrame m #[(.ref a1), (.int p2)] 6)) (T9.setTop (mkF m 43 #[.val (.ref a1), .val (.int p2), .val (.int ((1 : Int32) + (1 : Int32))), .val (.int (nf + (2 : Int32))), .val (.int p2), .val (.int (nf + (1 : Int32)))] [(.int nf), (.int (nf + (1 : Int32)))])) := fun t k => pre8 t (st9 t k)
  have pre11 : own_Go p e below (s₁.setTop (entryFrame m #[(.ref a1), (.int p2)] 6)) (T9.setTop (mkF m 47 #[.val (.ref a1), .val (.int p2), .val (.int ((1 : Int32) + (1 : Int32))), .val (.int (nf + (2 : Int32))), .val (.int p2), .val (.int (nf + (1 : Int32)))] [(.ref a1)])) := fun t k => pre10 t (by
      show Steps p.tables e below (T9.setTop (mkF m 43 #[.val (.ref a1), .val (.int p2), .val (.int ((1 : Int32) + (1 : Int32))), .val (.int (nf + (2 : Int32))), .val (.int p2), .val (.int (nf + (1 : Int32)))] [(.int nf), (.int (nf + (1 : Int32)))])) _
      refine XS.icmpNo X9.here hx rfl (hb hby d8_43) rfl (XT.ii_lt_f (own_nlt (by omega))) ?_
      show Steps p.tables e below (T9.setTop (mkF m 46 #[.val (.ref a1), .val (.int p2), .val (.int ((1 : Int32) + (1 : Int32))), .val (.int (nf + (2 : Int32))), .val (.int p2), .val (.int (nf + (1 : Int32)))] [])) _
      refine XS.aloadN X9.here hx rfl (hb hby d8_46) rfl rfl ?_
      exact k)
  obtain ⟨T12, X12, e12, st12⟩ := getF X9 hx hZ hown (host := "") (Or.inl (hw _ (List.mem_of_getElem? (i := 14) rfl))) Via.refl e9 F_bytes (g := (mkF m 47 #[.val (.ref a1), .val (.int p2), .val (.int ((1 : Int32) + (1 : Int32))), .val (.int (nf + (2 : Int32))), .val (.int p2), .val (.int (nf + (1 : Int32)))] [(.ref a1)])) rfl rfl (hb hby d8_47)
  have pre13 : own_Go p e below (s₁.setTop (entryFrame m #[(.ref a1), (.int p2)] 6)) (T12.setTop (mkF m 50 #[.val (.ref a1), .val (.int p2), .val (.int ((1 : Int32) + (1 : Int32))), .val (.int (nf + (2 : Int32))), .val (.int p2), .val (.int (nf + (1 : Int32)))] [(.ref ab)])) := fun t k => pre11 t (st12 t k)
  have pre14 : own_Go p e below (s₁.setTop (entryFrame m #[(.ref a1), (.int p2)] 6)) (T12.setTop (mkF m 61 #[.val (.ref a1), .val (.int p2), .val (.int ((1 : Int32) + (1 : Int32))), .val (.int (nf + (2 : Int32))), .val (.int p2), .val (.int (nf + (1 : Int32)))] [(.int (((48 : Int32) + (p2 % (10 : Int32))).toInt8.toInt32)), (.int (nf + (1 : Int32))), (.ref ab)])) := fun t k => pre13 t (by
      show Steps p.tables e below (T12.setTop (mkF m 50 #[.val (.ref a1), .val (.int p2), .val (.int ((1 : Int32) + (1 : Int32))), .val (.int (nf + (2 : Int32))), .val (.int p2), .val (.int (nf + (1 : Int32)))] [(.ref ab)])) _
      refine XS.iload X12.here hx rfl (hb hby d8_50) rfl ?_
      show Steps p.tables e below (T12.setTop (mkF m 52 #[.val (.ref a1), .val (.int p2), .val (.int ((1 : Int32) + (1 : Int32))), .val (.int (nf + (2 : Int32))), .val (.int p2), .val (.int (nf + (1 : Int32)))] [(.int (nf + (1 : Int32))), (.ref ab)])) _
      refine XS.bipush X12.here hx rfl (hb hby d8_52) ?_
      show Steps p.tables e below (T12.setTop (mkF m 54 #[.val (.ref a1), .val (.int p2), .val (.int ((1 : Int32) + (1 : Int32))), .val (.int (nf + (2 : Int32))), .val (.int p2), .val (.int (nf + (1 : Int32)))] [(.int (48 : Int32)), (.int (nf + (1 : Int32))), (.ref ab)])) _
      refine XS.iload X12.here hx rfl (hb hby d8_54) rfl ?_
      show Steps p.tables e below (T12.setTop (mkF m 56 #[.val (.ref a1), .val (.int p2), .val (.int ((1 : Int32) + (1 : Int32))), .val (.int (nf + (2 : Int32))), .val (.int p2), .val (.int (nf + (1 : Int32)))] [(.int p2), (.int (48 : Int32)), (.int (nf + (1 : Int32))), (.ref ab)])) _
      refine XS.bipush X12.here hx rfl (hb hby d8_56) ?_
      show Steps p.tables e below (T12.setTop (mkF m 58 #[.val (.ref a1), .val (.int p2), .val (.int ((1 : Int32) + (1 : Int32))), .val (.int (nf + (2 : Int32))), .val (.int p2), .val (.int (nf + (1 : Int32)))] [(.int (10 : Int32)), (.int p2), (.int (48 : Int32)), (.int (nf + (1 : Int32))), (.ref ab)])) _
      refine iremM X12 hx rfl (hb hby d8_58) rfl (by decide) ?_
      show Steps p.tables e below (T12.setTop (mkF m 59 #[.val (.ref a1), .val (.int p2), .val (.int ((1 : Int32) + (1 : Int32))), .val (.int (nf + (2 : Int32))), .val (.int p2), .val (.int (nf + (1 : Int32)))] [(.int (p2 % (10 : Int32))), (.int (48 : Int32)), (.int (nf + (1 : Int32))), (.ref ab)])) _
      refine XS.iadd X12.here hx rfl (hb hby d8_59) rfl ?_
      show Steps p.tables e below (T12.setTop (mkF m 60 #[.val (.ref a1), .val (.int p2), .val (.int ((1 : Int32) + (1 : Int32))), .val (.int (nf + (2 : Int32))), .val (.int p2), .val (.int (nf + (1 : Int32)))] [(.int ((48 : Int32) + (p2 % (10 : Int32)))), (.int (nf + (1 : Int32))), (.ref ab)])) _
      refine XT.i2b X12.here hx rfl (hb hby d8_60) rfl ?_
      exact k)
  obtain ⟨cl15, Ar15, hin15, -⟩ := own_A.at Vb (j := (nf + (1 : Int32))) (own_n0 (by omega)) (own_lt (by omega))
  obtain ⟨T15, h15, X15, e15, W15, st15⟩ := stB X12 hx hZ e12 Ar15 (j := (nf + (1 : Int32))) hin15 (g := (mkF m 61 #[.val (.ref a1), .val (.int p2), .val (.int ((1 : Int32) + (1 : Int32))), .val (.int (nf + (2 : Int32))), .val (.int p2), .val (.int (nf + (1 : Int32)))] [(.int (((48 : Int32) + (p2 % (10 : Int32))).toInt8.toInt32)), (.int (nf + (1 : Int32))), (.ref ab)])) rfl rfl (hb hby d8_61)
  have N15 := Fr.snoc X15 N0 gb
  have pre16 : own_Go p e below (s₁.setTop (entryFrame m #[(.ref a1), (.int p2)] 6)) (T15.setTop (mkF m 62 #[.val (.ref a1), .val (.int p2), .val (.int ((1 : Int32) + (1 : Int32))), .val (.int (nf + (2 : Int32))), .val (.int p2), .val (.int (nf + (1 : Int32)))] [])) := fun t k => pre14 t (st15 t k)
  have V_17 := own_A.set Vb W15 (fits_nar_byte _)
  have F_18 := F_bytes.other W15 (Or.inl ne2)
  have F_19 := F_numberFrom.other W15 (Or.inl ne2)
  have K_20 := (Keep.refl h0 [ab]).wr W15 (Or.inl (List.mem_of_getElem? (i := 0) rfl))
  have pre21 : own_Go p e below (s₁.setTop (entryFrame m #[(.ref a1), (.int p2)] 6)) (T15.setTop (mkF m 40 #[.val (.ref a1), .val (.int p2), .val (.int ((1 : Int32) + (1 : Int32))), .val (.int (nf + (2 : Int32))), .val (.int (p2 / (10 : Int32))), .val (.int ((nf + (1 : Int32)) + (-1 : Int32)))] [(.ref a1), (.int ((nf + (1 : Int32)) + (-1 : Int32)))])) := fun t k => pre16 t (by
      show Steps p.tables e below (T15.setTop (mkF m 62 #[.val (.ref a1), .val (.int p2), .val (.int ((1 : Int32) + (1 : Int32))), .val (.int (nf + (2 : Int32))), .val (.int p2), .val (.int (nf + (1 : Int32)))] [])) _
      refine XS.iload X15.here hx rfl (hb hby d8_62) rfl ?_
      show Steps p.tables e below (T15.setTop (mkF m 64 #[.val (.ref a1), .val (.int p2), .val (.int ((1 : Int32) + (1 : Int32))), .val (.int (nf + (2 : Int32))), .val (.int p2), .val (.int (nf + (1 : Int32)))] [(.int p2)])) _
      refine XS.bipush X15.here hx rfl (hb hby d8_64) ?_
      show Steps p.tables e below (T15.setTop (mkF m 66 #[.val (.ref a1), .val (.int p2), .val (.int ((1 : Int32) + (1 : Int32))), .val (.int (nf + (2 : Int32))), .val (.int p2), .val (.int (nf + (1 : Int32)))] [(.int (10 : Int32)), (.int p2)])) _
      refine XS.idiv X15.here hx rfl (hb hby d8_66) rfl (by decide) ?_
      show Steps p.tables e below (T15.setTop (mkF m 67 #[.val (.ref a1), .val (.int p2), .val (.int ((1 : Int32) + (1 : Int32))), .val (.int (nf + (2 : Int32))), .val (.int p2), .val (.int (nf + (1 : Int32)))] [(.int (p2 / (10 : Int32)))])) _
      refine XS.istore X15.here hx rfl (hb hby d8_67) rfl (l' := #[.val (.ref a1), .val (.int p2), .val (.int ((1 : Int32) + (1 : Int32))), .val (.int (nf + (2 : Int32))), .val (.int (p2 / (10 : Int32))), .val (.int (nf + (1 : Int32)))]) rfl ?_
      show Steps p.tables e below (T15.setTop (mkF m 69 #[.val (.ref a1), .val (.int p2), .val (.int ((1 : Int32) + (1 : Int32))), .val (.int (nf + (2 : Int32))), .val (.int (p2 / (10 : Int32))), .val (.int (nf + (1 : Int32)))] [])) _
      refine XT.iincV X15.here hx rfl (-1 : Int32) (hb hby d8_69) (by decide) rfl (l' := #[.val (.ref a1), .val (.int p2), .val (.int ((1 : Int32) + (1 : Int32))), .val (.int (nf + (2 : Int32))), .val (.int (p2 / (10 : Int32))), .val (.int ((nf + (1 : Int32)) + (-1 : Int32)))]) rfl ?_
      show Steps p.tables e below (T15.setTop (mkF m 72 #[.val (.ref a1), .val (.int p2), .val (.int ((1 : Int32) + (1 : Int32))), .val (.int (nf + (2 : Int32))), .val (.int (p2 / (10 : Int32))), .val (.int ((nf + (1 : Int32)) + (-1 : Int32)))] [])) _
      refine XS.goto X15.here hx rfl (pc0 := 72) (pc' := 37) rfl (hb hby d8_72) (by decide) (by decide) ?_
      show Steps p.tables e below (T15.setTop (mkF m 37 #[.val (.ref a1), .val (.int p2), .val (.int ((1 : Int32) + (1 : Int32))), .val (.int (nf + (2 : Int32))), .val (.int (p2 / (10 : Int32))), .val (.int ((nf + (1 : Int32)) + (-1 : Int32)))] [])) _
      refine XS.iload X15.here hx rfl (hb hby d8_37) rfl ?_
      show Steps p.tables e below (T15.setTop (mkF m 39 #[.val (.ref a1), .val (.int p2), .val (.int ((1 : Int32) + (1 : Int32))), .val (.int (nf + (2 : Int32))), .val (.int (p2 / (10 : Int32))), .val (.int ((nf + (1 : Int32)) + (-1 : Int32)))] [(.int ((nf + (1 : Int32)) + (-1 : Int32)))])) _
      refine XS.aloadN X15.here hx rfl (hb hby d8_39) rfl rfl ?_
      exact k)
  have pre22 : own_Go p e below (s₁.setTop (entryFrame m #[(.ref a1), (.int p2)] 6)) (T15.setTop (mkF m 40 #[.val (.ref a1), .val (.int p2), .val (.int ((1 : Int32) + (1 : Int32))), .val (.int (nf + (2 : Int32))), .val (.int (p2 / (10 : Int32))), .val (.int nf)] [(.ref a1), (.int nf)])) := by
    have q := pre21
    rw [own_s3] at q
    exact q
  obtain ⟨T23, X23, e23, st23⟩ := getF X15 hx hZ hown (host := "") (Or.inl (hw _ (List.mem_of_getElem? (i := 27) rfl))) Via.refl e15 F_19 (g := (mkF m 40 #[.val (.ref a1), .val (.int p2), .val (.int ((1 : Int32) + (1 : Int32))), .val (.int (nf + (2 : Int32))), .val (.int (p2 / (10 : Int32))), .val (.int nf)] [(.ref a1), (.int nf)])) rfl rfl (hb hby d8_40)
  have pre24 : own_Go p e below (s₁.setTop (entryFrame m #[(.ref a1), (.int p2)] 6)) (T23.setTop (mkF m 43 #[.val (.ref a1), .val (.int p2), .val (.int ((1 : Int32) + (1 : Int32))), .val (.int (nf + (2 : Int32))), .val (.int (p2 / (10 : Int32))), .val (.int nf)] [(.int nf), (.int nf)])) := fun t k => pre22 t (st23 t k)
  have pre25 : own_Go p e below (s₁.setTop (entryFrame m #[(.ref a1), (.int p2)] 6)) (T23.setTop (mkF m 47 #[.val (.ref a1), .val (.int p2), .val (.int ((1 : Int32) + (1 : Int32))), .val (.int (nf + (2 : Int32))), .val (.int (p2 / (10 : Int32))), .val (.int nf)] [(.ref a1)])) := fun t k => pre24 t (by
      show Steps p.tables e below (T23.setTop (mkF m 43 #[.val (.ref a1), .val (.int p2), .val (.int ((1 : Int32) + (1 : Int32))), .val (.int (nf + (2 : Int32))), .val (.int (p2 / (10 : Int32))), .val (.int nf)] [(.int nf), (.int nf)])) _
      refine XS.icmpNo X23.here hx rfl (hb hby d8_43) rfl (XT.ii_lt_f (own_nlt (by omega))) ?_
      show Steps p.tables e below (T23.setTop (mkF m 46 #[.val (.ref a1), .val (.int p2), .val (.int ((1 : Int32) + (1 : Int32))), .val (.int (nf + (2 : Int32))), .val (.int (p2 / (10 : Int32))), .val (.int nf)] [])) _
      refine XS.aloadN X23.here hx rfl (hb hby d8_46) rfl rfl ?_
      exact k)
  obtain ⟨T26, X26, e26, st26⟩ := getF X23 hx hZ hown (host := "") (Or.inl (hw _ (List.mem_of_getElem? (i := 14) rfl))) Via.refl e23 F_18 (g := (mkF m 47 #[.val (.ref a1), .val (.int p2), .val (.int ((1 : Int32) + (1 : Int32))), .val (.int (nf + (2 : Int32))), .val (.int (p2 / (10 : Int32))), .val (.int nf)] [(.ref a1)])) rfl rfl (hb hby d8_47)
  have pre27 : own_Go p e below (s₁.setTop (entryFrame m #[(.ref a1), (.int p2)] 6)) (T26.setTop (mkF m 50 #[.val (.ref a1), .val (.int p2), .val (.int ((1 : Int32) + (1 : Int32))), .val (.int (nf + (2 : Int32))), .val (.int (p2 / (10 : Int32))), .val (.int nf)] [(.ref ab)])) := fun t k => pre25 t (st26 t k)
  have pre28 : own_Go p e below (s₁.setTop (entryFrame m #[(.ref a1), (.int p2)] 6)) (T26.setTop (mkF m 61 #[.val (.ref a1), .val (.int p2), .val (.int ((1 : Int32) + (1 : Int32))), .val (.int (nf + (2 : Int32))), .val (.int (p2 / (10 : Int32))), .val (.int nf)] [(.int (((48 : Int32) + ((p2 / (10 : Int32)) % (10 : Int32))).toInt8.toInt32)), (.int nf), (.ref ab)])) := fun t k => pre27 t (by
      show Steps p.tables e below (T26.setTop (mkF m 50 #[.val (.ref a1), .val (.int p2), .val (.int ((1 : Int32) + (1 : Int32))), .val (.int (nf + (2 : Int32))), .val (.int (p2 / (10 : Int32))), .val (.int nf)] [(.ref ab)])) _
      refine XS.iload X26.here hx rfl (hb hby d8_50) rfl ?_
      show Steps p.tables e below (T26.setTop (mkF m 52 #[.val (.ref a1), .val (.int p2), .val (.int ((1 : Int32) + (1 : Int32))), .val (.int (nf + (2 : Int32))), .val (.int (p2 / (10 : Int32))), .val (.int nf)] [(.int nf), (.ref ab)])) _
      refine XS.bipush X26.here hx rfl (hb hby d8_52) ?_
      show Steps p.tables e below (T26.setTop (mkF m 54 #[.val (.ref a1), .val (.int p2), .val (.int ((1 : Int32) + (1 : Int32))), .val (.int (nf + (2 : Int32))), .val (.int (p2 / (10 : Int32))), .val (.int nf)] [(.int (48 : Int32)), (.int nf), (.ref ab)])) _
      refine XS.iload X26.here hx rfl (hb hby d8_54) rfl ?_
      show Steps p.tables e below (T26.setTop (mkF m 56 #[.val (.ref a1), .val (.int p2), .val (.int ((1 : Int32) + (1 : Int32))), .val (.int (nf + (2 : Int32))), .val (.int (p2 / (10 : Int32))), .val (.int nf)] [(.int (p2 / (10 : Int32))), (.int (48 : Int32)), (.int nf), (.ref ab)])) _
      refine XS.bipush X26.here hx rfl (hb hby d8_56) ?_
      show Steps p.tables e below (T26.setTop (mkF m 58 #[.val (.ref a1), .val (.int p2), .val (.int ((1 : Int32) + (1 : Int32))), .val (.int (nf + (2 : Int32))), .val (.int (p2 / (10 : Int32))), .val (.int nf)] [(.int (10 : Int32)), (.int (p2 / (10 : Int32))), (.int (48 : Int32)), (.int nf), (.ref ab)])) _
      refine iremM X26 hx rfl (hb hby d8_58) rfl (by decide) ?_
      show Steps p.tables e below (T26.setTop (mkF m 59 #[.val (.ref a1), .val (.int p2), .val (.int ((1 : Int32) + (1 : Int32))), .val (.int (nf + (2 : Int32))), .val (.int (p2 / (10 : Int32))), .val (.int nf)] [(.int ((p2 / (10 : Int32)) % (10 : Int32))), (.int (48 : Int32)), (.int nf), (.ref ab)])) _
      refine XS.iadd X26.here hx rfl (hb hby d8_59) rfl ?_
      show Steps p.tables e below (T26.setTop (mkF m 60 #[.val (.ref a1), .val (.int p2), .val (.int ((1 : Int32) + (1 : Int32))), .val (.int (nf + (2 : Int32))), .val (.int (p2 / (10 : Int32))), .val (.int nf)] [(.int ((48 : Int32) + ((p2 / (10 : Int32)) % (10 : Int32)))), (.int nf), (.ref ab)])) _
      refine XT.i2b X26.here hx rfl (hb hby d8_60) rfl ?_
      exact k)
  obtain ⟨cl29, Ar29, hin29, -⟩ := own_A.at V_17 (j := nf) (own_n0 (by omega)) (own_lt (by omega))
  obtain ⟨T29, h29, X29, e29, W29, st29⟩ := stB X26 hx hZ e26 Ar29 (j := nf) hin29 (g := (mkF m 61 #[.val (.ref a1), .val (.int p2), .val (.int ((1 : Int32) + (1 : Int32))), .val (.int (nf + (2 : Int32))), .val (.int (p2 / (10 : Int32))), .val (.int nf)] [(.int (((48 : Int32) + ((p2 / (10 : Int32)) % (10 : Int32))).toInt8.toInt32)), (.int nf), (.ref ab)])) rfl rfl (hb hby d8_61)
  have N29 := Fr.snoc X29 N15 gb
  have pre30 : own_Go p e below (s₁.setTop (entryFrame m #[(.ref a1), (.int p2)] 6)) (T29.setTop (mkF m 62 #[.val (.ref a1), .val (.int p2), .val (.int ((1 : Int32) + (1 : Int32))), .val (.int (nf + (2 : Int32))), .val (.int (p2 / (10 : Int32))), .val (.int nf)] [])) := fun t k => pre28 t (st29 t k)
  have V_31 := own_A.set V_17 W29 (fits_nar_byte _)
  have F_32 := F_18.other W29 (Or.inl ne2)
  have F_33 := F_19.other W29 (Or.inl ne2)
  have K_34 := K_20.wr W29 (Or.inl (List.mem_of_getElem? (i := 0) rfl))
  have pre35 : own_Go p e below (s₁.setTop (entryFrame m #[(.ref a1), (.int p2)] 6)) (T29.setTop (mkF m 40 #[.val (.ref a1), .val (.int p2), .val (.int ((1 : Int32) + (1 : Int32))), .val (.int (nf + (2 : Int32))), .val (.int ((p2 / (10 : Int32)) / (10 : Int32))), .val (.int (nf + (-1 : Int32)))] [(.ref a1), (.int (nf + (-1 : Int32)))])) := fun t k => pre30 t (by
      show Steps p.tables e below (T29.setTop (mkF m 62 #[.val (.ref a1), .val (.int p2), .val (.int ((1 : Int32) + (1 : Int32))), .val (.int (nf + (2 : Int32))), .val (.int (p2 / (10 : Int32))), .val (.int nf)] [])) _
      refine XS.iload X29.here hx rfl (hb hby d8_62) rfl ?_
      show Steps p.tables e below (T29.setTop (mkF m 64 #[.val (.ref a1), .val (.int p2), .val (.int ((1 : Int32) + (1 : Int32))), .val (.int (nf + (2 : Int32))), .val (.int (p2 / (10 : Int32))), .val (.int nf)] [(.int (p2 / (10 : Int32)))])) _
      refine XS.bipush X29.here hx rfl (hb hby d8_64) ?_
      show Steps p.tables e below (T29.setTop (mkF m 66 #[.val (.ref a1), .val (.int p2), .val (.int ((1 : Int32) + (1 : Int32))), .val (.int (nf + (2 : Int32))), .val (.int (p2 / (10 : Int32))), .val (.int nf)] [(.int (10 : Int32)), (.int (p2 / (10 : Int32)))])) _
      refine XS.idiv X29.here hx rfl (hb hby d8_66) rfl (by decide) ?_
      show Steps p.tables e below (T29.setTop (mkF m 67 #[.val (.ref a1), .val (.int p2), .val (.int ((1 : Int32) + (1 : Int32))), .val (.int (nf + (2 : Int32))), .val (.int (p2 / (10 : Int32))), .val (.int nf)] [(.int ((p2 / (10 : Int32)) / (10 : Int32)))])) _
      refine XS.istore X29.here hx rfl (hb hby d8_67) rfl (l' := #[.val (.ref a1), .val (.int p2), .val (.int ((1 : Int32) + (1 : Int32))), .val (.int (nf + (2 : Int32))), .val (.int ((p2 / (10 : Int32)) / (10 : Int32))), .val (.int nf)]) rfl ?_
      show Steps p.tables e below (T29.setTop (mkF m 69 #[.val (.ref a1), .val (.int p2), .val (.int ((1 : Int32) + (1 : Int32))), .val (.int (nf + (2 : Int32))), .val (.int ((p2 / (10 : Int32)) / (10 : Int32))), .val (.int nf)] [])) _
      refine XT.iincV X29.here hx rfl (-1 : Int32) (hb hby d8_69) (by decide) rfl (l' := #[.val (.ref a1), .val (.int p2), .val (.int ((1 : Int32) + (1 : Int32))), .val (.int (nf + (2 : Int32))), .val (.int ((p2 / (10 : Int32)) / (10 : Int32))), .val (.int (nf + (-1 : Int32)))]) rfl ?_
      show Steps p.tables e below (T29.setTop (mkF m 72 #[.val (.ref a1), .val (.int p2), .val (.int ((1 : Int32) + (1 : Int32))), .val (.int (nf + (2 : Int32))), .val (.int ((p2 / (10 : Int32)) / (10 : Int32))), .val (.int (nf + (-1 : Int32)))] [])) _
      refine XS.goto X29.here hx rfl (pc0 := 72) (pc' := 37) rfl (hb hby d8_72) (by decide) (by decide) ?_
      show Steps p.tables e below (T29.setTop (mkF m 37 #[.val (.ref a1), .val (.int p2), .val (.int ((1 : Int32) + (1 : Int32))), .val (.int (nf + (2 : Int32))), .val (.int ((p2 / (10 : Int32)) / (10 : Int32))), .val (.int (nf + (-1 : Int32)))] [])) _
      refine XS.iload X29.here hx rfl (hb hby d8_37) rfl ?_
      show Steps p.tables e below (T29.setTop (mkF m 39 #[.val (.ref a1), .val (.int p2), .val (.int ((1 : Int32) + (1 : Int32))), .val (.int (nf + (2 : Int32))), .val (.int ((p2 / (10 : Int32)) / (10 : Int32))), .val (.int (nf + (-1 : Int32)))] [(.int (nf + (-1 : Int32)))])) _
      refine XS.aloadN X29.here hx rfl (hb hby d8_39) rfl rfl ?_
      exact k)
  obtain ⟨T36, X36, e36, st36⟩ := getF X29 hx hZ hown (host := "") (Or.inl (hw _ (List.mem_of_getElem? (i := 27) rfl))) Via.refl e29 F_33 (g := (mkF m 40 #[.val (.ref a1), .val (.int p2), .val (.int ((1 : Int32) + (1 : Int32))), .val (.int (nf + (2 : Int32))), .val (.int ((p2 / (10 : Int32)) / (10 : Int32))), .val (.int (nf + (-1 : Int32)))] [(.ref a1), (.int (nf + (-1 : Int32)))])) rfl rfl (hb hby d8_40)
  have pre37 : own_Go p e below (s₁.setTop (entryFrame m #[(.ref a1), (.int p2)] 6)) (T36.setTop (mkF m 43 #[.val (.ref a1), .val (.int p2), .val (.int ((1 : Int32) + (1 : Int32))), .val (.int (nf + (2 : Int32))), .val (.int ((p2 / (10 : Int32)) / (10 : Int32))), .val (.int (nf + (-1 : Int32)))] [(.int nf), (.int (nf + (-1 : Int32)))])) := fun t k => pre35 t (st36 t k)
  have pre38 : own_Go p e below (s₁.setTop (entryFrame m #[(.ref a1), (.int p2)] 6)) (T36.setTop (mkF m 76 #[.val (.ref a1), .val (.int p2), .val (.int ((1 : Int32) + (1 : Int32))), .val (.int (nf + (2 : Int32))), .val (.int ((p2 / (10 : Int32)) / (10 : Int32))), .val (.int (nf + (-1 : Int32)))] [(.int (nf + (2 : Int32)))])) := fun t k => pre37 t (by
      show Steps p.tables e below (T36.setTop (mkF m 43 #[.val (.ref a1), .val (.int p2), .val (.int ((1 : Int32) + (1 : Int32))), .val (.int (nf + (2 : Int32))), .val (.int ((p2 / (10 : Int32)) / (10 : Int32))), .val (.int (nf + (-1 : Int32)))] [(.int nf), (.int (nf + (-1 : Int32)))])) _
      refine XS.icmpYes X36.here hx rfl (pc0 := 43) (pc' := 75) rfl (hb hby d8_43) rfl (XT.ii_lt_t (own_m1lt hf.1 (Int.le_trans hf.2 (by decide)))) (by decide) (by decide) ?_
      show Steps p.tables e below (T36.setTop (mkF m 75 #[.val (.ref a1), .val (.int p2), .val (.int ((1 : Int32) + (1 : Int32))), .val (.int (nf + (2 : Int32))), .val (.int ((p2 / (10 : Int32)) / (10 : Int32))), .val (.int (nf + (-1 : Int32)))] [])) _
      refine XS.iloadN X36.here hx rfl (hb hby d8_75) rfl ?_
      exact k)
  obtain ⟨fs, hr, hrun, hended, hW, hsame⟩ := X36.leave (v := some (.int (nf + (2 : Int32)))) (fun h => by rw [Bd.returns] at h; cases h)
  refine ⟨_, _, pre38 _ ?_, hrun, hended, _, _, rfl, ?_, ⟨_, rfl⟩, hW, hsame.mono (by decide) (by decide)⟩
  · show Steps p.tables e below (T36.setTop (mkF m 76 #[.val (.ref a1), .val (.int p2), .val (.int ((1 : Int32) + (1 : Int32))), .val (.int (nf + (2 : Int32))), .val (.int ((p2 / (10 : Int32)) / (10 : Int32))), .val (.int (nf + (-1 : Int32)))] [(.int (nf + (2 : Int32)))])) _
    exact retI X36 hx Bd.returns (hb hby d8_76) hr
  · show Q8 Z ab p2 nf nb fb h0 n0 _ T36.heap _
    rw [e36]
    exact ⟨rfl, N29, K_34, V_31⟩
theorem own_dig1 {x : Int32} (h : 0 ≤ x.toInt) (h' : x.toInt < 10) : nar .byte ((48 : Int32) + (x % (10 : Int32))).toInt8.toInt32 = ((48 : Int32) + x).toInt8.toInt32 := by rw [own_rem10 h h', own_narb]
def Q0 (Z : State) (p1 p2 p3 : Int32) (h0 : Heap) (n0 : Nat) (v : Option Value) (h : Heap) (L : List Loc) : Prop := v = some (.int (1 : Int32)) ∧ Fr n0 L
theorem pn_0 : plainName "com/example/gyre/gyre/NodeLabelStartNodePinLaw" = true := by first | (simp [plainName, overriddenIn]; done) | decide +kernel
theorem pd_0_0 : parseMethodDescriptor "(II)[B" = some ⟨[.int, .int], some (.array .byte)⟩ := by decide +kernel
theorem pd_0_1 : parseMethodDescriptor "(C)V" = some ⟨[.char], none⟩ := by decide +kernel
theorem pd_0_2 : parseMethodDescriptor "([B)V" = some ⟨[(.array .byte)], none⟩ := by decide +kernel
theorem pd_0_3 : parseMethodDescriptor "()[B" = some ⟨[], some (.array .byte)⟩ := by decide +kernel
theorem pd_0_4 : parseMethodDescriptor "([B[BI)Z" = some ⟨[(.array .byte), (.array .byte), .int], some .boolean⟩ := by decide +kernel
theorem pd_0_5 : parseMethodDescriptor "(I)I" = some ⟨[.int], some .int⟩ := by decide +kernel
theorem ef_0 (m : MethodId) (x0 : Int32) (x1 : Int32) (x2 : Int32) : entryFrame m #[(.int x0), (.int x1), (.int x2)] maxLocals = mkF m 0 #[.val (.int x0), .val (.int x1), .val (.int x2), .unset, .unset, .unset, .unset, .unset, .unset, .unset, .unset, .unset, .unset, .unset, .unset, .unset] [] := by first | (simp [entryFrame, mkF, argsToLocals, Value.category, maxLocals]; done) | rfl
set_option maxRecDepth 65536 in
set_option maxHeartbeats 40000000 in
theorem rm0 (l : Launch) (Z : State) (a0 : Array Value) (hw : ∀ d ∈ tables_1, d.before a0 Z = true) (ws : List Jvm.Cond) (p1 p2 p3 : Int32) (h0 : Heap) (n0 : Nat) (Z0 : n0 ≤ h0.size)  :
    MetFree l x (head1 (Jvm.Cond.code x code maxLocals ret :: ws) room_1) (fun a U => a = #[(.int p1), (.int p2), (.int p3)] ∧ Z.Warmed39 U.vm ∧ U.heap = h0) (fun _ _ _ _ _ => True) (fun _ U o U' => ∃ v L, o = .returned v ∧ Q0 Z p1 p2 p3 h0 n0 v U'.heap L ∧ FrameEnd U o U' L room_1.cells room_1.slots) := by
  refine MetFree.of_bodySF (plainFor_of_name pn_0) hisR ?_
  intro p e s m args below meth c s₁ Bd hml0 hP hK
  obtain ⟨rfl, hZ, hh⟩ := hP
  have hx := Bd.exec
  have hby := Bd.bytes
  have hml : c.maxLocals = 16 := hml0
  have hown : s.vm.findClass "com/example/gyre/gyre/NodeLabelStartNodePinLaw" = some m.cls := findClass_of_methodNamed Bd.named
  have hnm := (name_of_methodNamed Bd.named Bd.method).1
  have X0 : Stand p l e room_1 s m #[(.int p1), (.int p2), (.int p3)] below meth c s₁ [] 0 0 := Stand.of_body Bd
  have e0 : s₁.heap = h0 := by rw [← hh, Bd.state]; rfl
  have N0 := Fr.nil n0
  have pre0 : own_Go p e below (s₁.setTop (entryFrame m #[(.int p1), (.int p2), (.int p3)] maxLocals)) (s₁.setTop (mkF m 0 #[.val (.int p1), .val (.int p2), .val (.int p3), .unset, .unset, .unset, .unset, .unset, .unset, .unset, .unset, .unset, .unset, .unset, .unset, .unset] [])) := fun t k => castTop (ef_0 m p1 p2 p3) k
  have pre1 : own_Go p e below (s₁.setTop (entryFrame m #[(.int p1), (.int p2), (.int p3)] maxLocals)) (s₁.setTop (mkF m 3 #[.val (.int p1), .val (.int p2), .val (.int p3), .unset, .unset, .unset, .unset, .unset, .unset, .unset, .unset, .unset, .unset, .unset, .unset, .unset] [(.int (p1 &&& (3 : Int32)))])) := fun t k => pre0 t (by
      show Steps p.tables e below (s₁.setTop (mkF m 0 #[.val (.int p1), .val (.int p2), .val (.int p3), .unset, .unset, .unset, .unset, .unset, .unset, .unset, .unset, .unset, .unset, .unset, .unset, .unset] [])) _
      refine XS.iloadN X0.here hx rfl (hb hby at_0) rfl ?_
      show Steps p.tables e below (s₁.setTop (mkF m 1 #[.val (.int p1), .val (.int p2), .val (.int p3), .unset, .unset, .unset, .unset, .unset, .unset, .unset, .unset, .unset, .unset, .unset, .unset, .unset] [(.int p1)])) _
      refine XS.iconst X0.here hx rfl (hb hby at_1) ?_
      show Steps p.tables e below (s₁.setTop (mkF m 2 #[.val (.int p1), .val (.int p2), .val (.int p3), .unset, .unset, .unset, .unset, .unset, .unset, .unset, .unset, .unset, .unset, .unset, .unset, .unset] [(.int (3 : Int32)), (.int p1)])) _
      refine XS.iand X0.here hx rfl (hb hby at_2) rfl ?_
      exact k)
  obtain ⟨l1, e_l1, pre2⟩ : ∃ l1 : Int32, l1 = (p1 &&& (3 : Int32)) ∧ own_Go p e below (s₁.setTop (entryFrame m #[(.int p1), (.int p2), (.int p3)] maxLocals)) (s₁.setTop (mkF m 3 #[.val (.int p1), .val (.int p2), .val (.int p3), .unset, .unset, .unset, .unset, .unset, .unset, .unset, .unset, .unset, .unset, .unset, .unset, .unset] [(.int l1)])) := ⟨_, rfl, pre1⟩
  have hl1 : 0 ≤ l1.toInt ∧ l1.toInt ≤ 3 := by rw [e_l1]; exact own_l3 _
  clear e_l1
  have pre3 : own_Go p e below (s₁.setTop (entryFrame m #[(.int p1), (.int p2), (.int p3)] maxLocals)) (s₁.setTop (mkF m 9 #[.val (.int p1), .val (.int p2), .val (.int p3), .val (.int l1), .unset, .unset, .unset, .unset, .unset, .unset, .unset, .unset, .unset, .unset, .unset, .unset] [(.int (((p1.toUInt32 >>> ((2 : Int32) &&& 31).toUInt32).toInt32) &&& (3 : Int32)))])) := fun t k => pre2 t (by
      show Steps p.tables e below (s₁.setTop (mkF m 3 #[.val (.int p1), .val (.int p2), .val (.int p3), .unset, .unset, .unset, .unset, .unset, .unset, .unset, .unset, .unset, .unset, .unset, .unset, .unset] [(.int l1)])) _
      refine XS.istoreN X0.here hx rfl (hb hby at_3) rfl (l' := #[.val (.int p1), .val (.int p2), .val (.int p3), .val (.int l1), .unset, .unset, .unset, .unset, .unset, .unset, .unset, .unset, .unset, .unset, .unset, .unset]) rfl ?_
      show Steps p.tables e below (s₁.setTop (mkF m 4 #[.val (.int p1), .val (.int p2), .val (.int p3), .val (.int l1), .unset, .unset, .unset, .unset, .unset, .unset, .unset, .unset, .unset, .unset, .unset, .unset] [])) _
      refine XS.iloadN X0.here hx rfl (hb hby at_4) rfl ?_
      show Steps p.tables e below (s₁.setTop (mkF m 5 #[.val (.int p1), .val (.int p2), .val (.int p3), .val (.int l1), .unset, .unset, .unset, .unset, .unset, .unset, .unset, .unset, .unset, .unset, .unset, .unset] [(.int p1)])) _
      refine XS.iconst X0.here hx rfl (hb hby at_5) ?_
      show Steps p.tables e below (s₁.setTop (mkF m 6 #[.val (.int p1), .val (.int p2), .val (.int p3), .val (.int l1), .unset, .unset, .unset, .unset, .unset, .unset, .unset, .unset, .unset, .unset, .unset, .unset] [(.int (2 : Int32)), (.int p1)])) _
      refine XT.iushr X0.here hx rfl (hb hby at_6) rfl ?_
      show Steps p.tables e below (s₁.setTop (mkF m 7 #[.val (.int p1), .val (.int p2), .val (.int p3), .val (.int l1), .unset, .unset, .unset, .unset, .unset, .unset, .unset, .unset, .unset, .unset, .unset, .unset] [(.int ((p1.toUInt32 >>> ((2 : Int32) &&& 31).toUInt32).toInt32))])) _
      refine XS.iconst X0.here hx rfl (hb hby at_7) ?_
      show Steps p.tables e below (s₁.setTop (mkF m 8 #[.val (.int p1), .val (.int p2), .val (.int p3), .val (.int l1), .unset, .unset, .unset, .unset, .unset, .unset, .unset, .unset, .unset, .unset, .unset, .unset] [(.int (3 : Int32)), (.int ((p1.toUInt32 >>> ((2 : Int32) &&& 31).toUInt32).toInt32))])) _
      refine XS.iand X0.here hx rfl (hb hby at_8) rfl ?_
      exact k)
  obtain ⟨l2, e_l2, pre4⟩ : ∃ l2 : Int32, l2 = (((p1.toUInt32 >>> ((2 : Int32) &&& 31).toUInt32).toInt32) &&& (3 : Int32)) ∧ own_Go p e below (s₁.setTop (entryFrame m #[(.int p1), (.int p2), (.int p3)] maxLocals)) (s₁.setTop (mkF m 9 #[.val (.int p1), .val (.int p2), .val (.int p3), .val (.int l1), .unset, .unset, .unset, .unset, .unset, .unset, .unset, .unset, .unset, .unset, .unset, .unset] [(.int l2)])) := ⟨_, rfl, pre3⟩
  have hl2 : 0 ≤ l2.toInt ∧ l2.toInt ≤ 3 := by rw [e_l2]; exact own_l3 _
  clear e_l2
  have pre5 : own_Go p e below (s₁.setTop (entryFrame m #[(.int p1), (.int p2), (.int p3)] maxLocals)) (s₁.setTop (mkF m 18 #[.val (.int p1), .val (.int p2), .val (.int p3), .val (.int l1), .val (.int l2), .unset, .unset, .unset, .unset, .unset, .unset, .unset, .unset, .unset, .unset, .unset] [(.int ((((p1.toUInt32 >>> ((4 : Int32) &&& 31).toUInt32).toInt32) &&& (127 : Int32)).toUInt32.toUInt16.toUInt32.toInt32))])) := fun t k => pre4 t (by
      show Steps p.tables e below (s₁.setTop (mkF m 9 #[.val (.int p1), .val (.int p2), .val (.int p3), .val (.int l1), .unset, .unset, .unset, .unset, .unset, .unset, .unset, .unset, .unset, .unset, .unset, .unset] [(.int l2)])) _
      refine XS.istore X0.here hx rfl (hb hby at_9) rfl (l' := #[.val (.int p1), .val (.int p2), .val (.int p3), .val (.int l1), .val (.int l2), .unset, .unset, .unset, .unset, .unset, .unset, .unset, .unset, .unset, .unset, .unset]) rfl ?_
      show Steps p.tables e below (s₁.setTop (mkF m 11 #[.val (.int p1), .val (.int p2), .val (.int p3), .val (.int l1), .val (.int l2), .unset, .unset, .unset, .unset, .unset, .unset, .unset, .unset, .unset, .unset, .unset] [])) _
      refine XS.iloadN X0.here hx rfl (hb hby at_11) rfl ?_
      show Steps p.tables e below (s₁.setTop (mkF m 12 #[.val (.int p1), .val (.int p2), .val (.int p3), .val (.int l1), .val (.int l2), .unset, .unset, .unset, .unset, .unset, .unset, .unset, .unset, .unset, .unset, .unset] [(.int p1)])) _
      refine XS.iconst X0.here hx rfl (hb hby at_12) ?_
      show Steps p.tables e below (s₁.setTop (mkF m 13 #[.val (.int p1), .val (.int p2), .val (.int p3), .val (.int l1), .val (.int l2), .unset, .unset, .unset, .unset, .unset, .unset, .unset, .unset, .unset, .unset, .unset] [(.int (4 : Int32)), (.int p1)])) _
      refine XT.iushr X0.here hx rfl (hb hby at_13) rfl ?_
      show Steps p.tables e below (s₁.setTop (mkF m 14 #[.val (.int p1), .val (.int p2), .val (.int p3), .val (.int l1), .val (.int l2), .unset, .unset, .unset, .unset, .unset, .unset, .unset, .unset, .unset, .unset, .unset] [(.int ((p1.toUInt32 >>> ((4 : Int32) &&& 31).toUInt32).toInt32))])) _
      refine XS.bipush X0.here hx rfl (hb hby at_14) ?_
      show Steps p.tables e below (s₁.setTop (mkF m 16 #[.val (.int p1), .val (.int p2), .val (.int p3), .val (.int l1), .val (.int l2), .unset, .unset, .unset, .unset, .unset, .unset, .unset, .unset, .unset, .unset, .unset] [(.int (127 : Int32)), (.int ((p1.toUInt32 >>> ((4 : Int32) &&& 31).toUInt32).toInt32))])) _
      refine XS.iand X0.here hx rfl (hb hby at_16) rfl ?_
      show Steps p.tables e below (s₁.setTop (mkF m 17 #[.val (.int p1), .val (.int p2), .val (.int p3), .val (.int l1), .val (.int l2), .unset, .unset, .unset, .unset, .unset, .unset, .unset, .unset, .unset, .unset, .unset] [(.int (((p1.toUInt32 >>> ((4 : Int32) &&& 31).toUInt32).toInt32) &&& (127 : Int32)))])) _
      refine XT.i2c X0.here hx rfl (hb hby at_17) rfl ?_
      exact k)
  obtain ⟨ch, e_ch, pre6⟩ : ∃ ch : Int32, ch = ((((p1.toUInt32 >>> ((4 : Int32) &&& 31).toUInt32).toInt32) &&& (127 : Int32)).toUInt32.toUInt16.toUInt32.toInt32) ∧ own_Go p e below (s₁.setTop (entryFrame m #[(.int p1), (.int p2), (.int p3)] maxLocals)) (s₁.setTop (mkF m 18 #[.val (.int p1), .val (.int p2), .val (.int p3), .val (.int l1), .val (.int l2), .unset, .unset, .unset, .unset, .unset, .unset, .unset, .unset, .unset, .unset, .unset] [(.int ch)])) := ⟨_, rfl, pre5⟩
  clear e_ch
  have pre7 : own_Go p e below (s₁.setTop (entryFrame m #[(.int p1), (.int p2), (.int p3)] maxLocals)) (s₁.setTop (mkF m 27 #[.val (.int p1), .val (.int p2), .val (.int p3), .val (.int l1), .val (.int l2), .val (.int ch), .unset, .unset, .unset, .unset, .unset, .unset, .unset, .unset, .unset, .unset] [(.int (((p1.toUInt32 >>> ((11 : Int32) &&& 31).toUInt32).toInt32) % (100 : Int32)))])) := fun t k => pre6 t (by
      show Steps p.tables e below (s₁.setTop (mkF m 18 #[.val (.int p1), .val (.int p2), .val (.int p3), .val (.int l1), .val (.int l2), .unset, .unset, .unset, .unset, .unset, .unset, .unset, .unset, .unset, .unset, .unset] [(.int ch)])) _
      refine XS.istore X0.here hx rfl (hb hby at_18) rfl (l' := #[.val (.int p1), .val (.int p2), .val (.int p3), .val (.int l1), .val (.int l2), .val (.int ch), .unset, .unset, .unset, .unset, .unset, .unset, .unset, .unset, .unset, .unset]) rfl ?_
      show Steps p.tables e below (s₁.setTop (mkF m 20 #[.val (.int p1), .val (.int p2), .val (.int p3), .val (.int l1), .val (.int l2), .val (.int ch), .unset, .unset, .unset, .unset, .unset, .unset, .unset, .unset, .unset, .unset] [])) _
      refine XS.iloadN X0.here hx rfl (hb hby at_20) rfl ?_
      show Steps p.tables e below (s₁.setTop (mkF m 21 #[.val (.int p1), .val (.int p2), .val (.int p3), .val (.int l1), .val (.int l2), .val (.int ch), .unset, .unset, .unset, .unset, .unset, .unset, .unset, .unset, .unset, .unset] [(.int p1)])) _
      refine XS.bipush X0.here hx rfl (hb hby at_21) ?_
      show Steps p.tables e below (s₁.setTop (mkF m 23 #[.val (.int p1), .val (.int p2), .val (.int p3), .val (.int l1), .val (.int l2), .val (.int ch), .unset, .unset, .unset, .unset, .unset, .unset, .unset, .unset, .unset, .unset] [(.int (11 : Int32)), (.int p1)])) _
      refine XT.iushr X0.here hx rfl (hb hby at_23) rfl ?_
      show Steps p.tables e below (s₁.setTop (mkF m 24 #[.val (.int p1), .val (.int p2), .val (.int p3), .val (.int l1), .val (.int l2), .val (.int ch), .unset, .unset, .unset, .unset, .unset, .unset, .unset, .unset, .unset, .unset] [(.int ((p1.toUInt32 >>> ((11 : Int32) &&& 31).toUInt32).toInt32))])) _
      refine XS.bipush X0.here hx rfl (hb hby at_24) ?_
      show Steps p.tables e below (s₁.setTop (mkF m 26 #[.val (.int p1), .val (.int p2), .val (.int p3), .val (.int l1), .val (.int l2), .val (.int ch), .unset, .unset, .unset, .unset, .unset, .unset, .unset, .unset, .unset, .unset] [(.int (100 : Int32)), (.int ((p1.toUInt32 >>> ((11 : Int32) &&& 31).toUInt32).toInt32))])) _
      refine iremM X0 hx rfl (hb hby at_26) rfl (by decide) ?_
      exact k)
  obtain ⟨nu, e_nu, pre8⟩ : ∃ nu : Int32, nu = (((p1.toUInt32 >>> ((11 : Int32) &&& 31).toUInt32).toInt32) % (100 : Int32)) ∧ own_Go p e below (s₁.setTop (entryFrame m #[(.int p1), (.int p2), (.int p3)] maxLocals)) (s₁.setTop (mkF m 27 #[.val (.int p1), .val (.int p2), .val (.int p3), .val (.int l1), .val (.int l2), .val (.int ch), .unset, .unset, .unset, .unset, .unset, .unset, .unset, .unset, .unset, .unset] [(.int nu)])) := ⟨_, rfl, pre7⟩
  have hnu : 0 ≤ nu.toInt ∧ nu.toInt < (100 : Int32).toInt := by rw [e_nu]; exact own_remr (own_nu p1) (by decide)
  clear e_nu
  have z0 : (0 : Int32).toInt = 0 := by decide
  have z1 : (1 : Int32).toInt = 1 := by decide
  have z2 : (2 : Int32).toInt = 2 := by decide
  have z10 : (10 : Int32).toInt = 10 := by decide
  have z11 : (11 : Int32).toInt = 11 := by decide
  have z100 : (100 : Int32).toInt = 100 := by decide
  have hsb : nar .byte (ch.toInt8.toInt32) = (ch.toInt8.toInt32) := own_narb ch
  have l1_0 : ¬ l1 < 0 := own_n0 hl1.1
  have l1_11 := own_add (x := l1) (k := 11) hl1.1 (by omega) (by omega) (by omega)
  have l2_0 : ¬ l2 < 0 := own_n0 hl2.1
  have l2_11 := own_add (x := l2) (k := 11) hl2.1 (by omega) (by omega) (by omega)
  have l2_1 := own_add (x := l2) (k := 1) hl2.1 (by omega) (by omega) (by omega)
  have l2_2 := own_add (x := l2) (k := 2) hl2.1 (by omega) (by omega) (by omega)
  have Zh1 : n0 ≤ h0.size := Nat.le_trans Z0 (Keep.refl h0 []).1
  have pre9 : own_Go p e below (s₁.setTop (entryFrame m #[(.int p1), (.int p2), (.int p3)] maxLocals)) (s₁.setTop (mkF m 31 #[.val (.int p1), .val (.int p2), .val (.int p3), .val (.int l1), .val (.int l2), .val (.int ch), .val (.int nu), .unset, .unset, .unset, .unset, .unset, .unset, .unset, .unset, .unset] [(.int p2), (.int l1)])) := fun t k => pre8 t (by
      show Steps p.tables e below (s₁.setTop (mkF m 27 #[.val (.int p1), .val (.int p2), .val (.int p3), .val (.int l1), .val (.int l2), .val (.int ch), .unset, .unset, .unset, .unset, .unset, .unset, .unset, .unset, .unset, .unset] [(.int nu)])) _
      refine XS.istore X0.here hx rfl (hb hby at_27) rfl (l' := #[.val (.int p1), .val (.int p2), .val (.int p3), .val (.int l1), .val (.int l2), .val (.int ch), .val (.int nu), .unset, .unset, .unset, .unset, .unset, .unset, .unset, .unset, .unset]) rfl ?_
      show Steps p.tables e below (s₁.setTop (mkF m 29 #[.val (.int p1), .val (.int p2), .val (.int p3), .val (.int l1), .val (.int l2), .val (.int ch), .val (.int nu), .unset, .unset, .unset, .unset, .unset, .unset, .unset, .unset, .unset] [])) _
      refine XS.iloadN X0.here hx rfl (hb hby at_29) rfl ?_
      show Steps p.tables e below (s₁.setTop (mkF m 30 #[.val (.int p1), .val (.int p2), .val (.int p3), .val (.int l1), .val (.int l2), .val (.int ch), .val (.int nu), .unset, .unset, .unset, .unset, .unset, .unset, .unset, .unset, .unset] [(.int l1)])) _
      refine XS.iloadN X0.here hx rfl (hb hby at_30) rfl ?_
      exact k)
  obtain ⟨_, _, ⟨T10, L10, k10, n10⟩, -, X10, ⟨Lc10, hQ10, l10, y10, z10⟩, st10⟩ := Jvm.LawKit.callS X0 hx (y := (⟨"com/example/gyre/gyre/NodeLabelStartNodePinLaw", "mk", "(II)[B"⟩ : MethodName)) hown (mvT hZ (hw _ (List.mem_of_getElem? (i := 0) rfl))) (mvT hZ (hw _ (List.mem_of_getElem? (i := 1) rfl))) (mvT hZ (hw _ (List.mem_of_getElem? (i := 2) rfl))) (mvT hZ (hw _ (List.mem_of_getElem? (i := 3) rfl))) (by decide) (backOf (W := 0) (rm1 l Z a0 hw [] l1 p2 h0 n0 Zh1 l1_0 (own_cap hl1.1 hl1.2)) hZ (hw _ (List.mem_of_getElem? (i := 3) rfl)) (hw _ (List.mem_of_getElem? (i := 2) rfl)) (by decide) (by decide)) (g := (mkF m 31 #[.val (.int p1), .val (.int p2), .val (.int p3), .val (.int l1), .val (.int l2), .val (.int ch), .val (.int nu), .unset, .unset, .unset, .unset, .unset, .unset, .unset, .unset, .unset] [(.int p2), (.int l1)])) rfl (by rw [hml]; rfl) (argsL := [(.int l1), (.int p2)]) (rest := []) (lenOf pd_0_0 rfl) rfl (by show 2 * 0 + _ ≤ _; exact Nat.le_of_eq rfl) (hb hby at_31) (fun _ _ => ⟨rfl, e0, (by decide : 0 + 1 ≤ _), (by decide : 0 + 3 ≤ _)⟩)
  dsimp only [Pt.U, Pt.locs, Pt.cells, Pt.slots] at X10 l10 y10 z10 st10 hQ10
  subst l10 y10 z10
  obtain ⟨n1, f_n1, rfl, N10q, K10, s_n1, V10⟩ := hQ10
  have N10 := Fr.app N0 N10q
  have pre11 : own_Go p e below (s₁.setTop (entryFrame m #[(.int p1), (.int p2), (.int p3)] maxLocals)) (T10.setTop (mkF m 34 #[.val (.int p1), .val (.int p2), .val (.int p3), .val (.int l1), .val (.int l2), .val (.int ch), .val (.int nu), .unset, .unset, .unset, .unset, .unset, .unset, .unset, .unset, .unset] [(.ref n1)])) := fun t k => pre9 t (st10 t k)
  have sz_n1 : h0.size ≤ n1 := Nat.le_trans (Keep.refl h0 []).1 s_n1
  have g_n1 : n0 ≤ n1 := Nat.le_trans Z0 sz_n1
  have K_12 := (Keep.refl h0 []).trans K10 all0
  have Zh2 : n0 ≤ T10.heap.size := Nat.le_trans Z0 K_12.1
  have pre13 : own_Go p e below (s₁.setTop (entryFrame m #[(.int p1), (.int p2), (.int p3)] maxLocals)) (T10.setTop (mkF m 39 #[.val (.int p1), .val (.int p2), .val (.int p3), .val (.int l1), .val (.int l2), .val (.int ch), .val (.int nu), .val (.ref n1), .unset, .unset, .unset, .unset, .unset, .unset, .unset, .unset] [(.int p3), (.int l2)])) := fun t k => pre11 t (by
      show Steps p.tables e below (T10.setTop (mkF m 34 #[.val (.int p1), .val (.int p2), .val (.int p3), .val (.int l1), .val (.int l2), .val (.int ch), .val (.int nu), .unset, .unset, .unset, .unset, .unset, .unset, .unset, .unset, .unset] [(.ref n1)])) _
      refine XS.astore X10.here hx rfl (hb hby at_34) rfl rfl (l' := #[.val (.int p1), .val (.int p2), .val (.int p3), .val (.int l1), .val (.int l2), .val (.int ch), .val (.int nu), .val (.ref n1), .unset, .unset, .unset, .unset, .unset, .unset, .unset, .unset]) rfl ?_
      show Steps p.tables e below (T10.setTop (mkF m 36 #[.val (.int p1), .val (.int p2), .val (.int p3), .val (.int l1), .val (.int l2), .val (.int ch), .val (.int nu), .val (.ref n1), .unset, .unset, .unset, .unset, .unset, .unset, .unset, .unset] [])) _
      refine XS.iload X10.here hx rfl (hb hby at_36) rfl ?_
      show Steps p.tables e below (T10.setTop (mkF m 38 #[.val (.int p1), .val (.int p2), .val (.int p3), .val (.int l1), .val (.int l2), .val (.int ch), .val (.int nu), .val (.ref n1), .unset, .unset, .unset, .unset, .unset, .unset, .unset, .unset] [(.int l2)])) _
      refine XS.iloadN X10.here hx rfl (hb hby at_38) rfl ?_
      exact k)
  obtain ⟨_, _, ⟨T14, L14, k14, n14⟩, -, X14, ⟨Lc14, hQ14, l14, y14, z14⟩, st14⟩ := Jvm.LawKit.callS X10 hx (y := (⟨"com/example/gyre/gyre/NodeLabelStartNodePinLaw", "mk", "(II)[B"⟩ : MethodName)) hown (mvT hZ (hw _ (List.mem_of_getElem? (i := 0) rfl))) (mvT hZ (hw _ (List.mem_of_getElem? (i := 1) rfl))) (mvT hZ (hw _ (List.mem_of_getElem? (i := 2) rfl))) (mvT hZ (hw _ (List.mem_of_getElem? (i := 3) rfl))) (by decide) (backOf (W := 0) (rm1 l Z a0 hw [] l2 p3 T10.heap n0 Zh2 l2_0 (own_cap hl2.1 hl2.2)) hZ (hw _ (List.mem_of_getElem? (i := 3) rfl)) (hw _ (List.mem_of_getElem? (i := 2) rfl)) (by decide) (by decide)) (g := (mkF m 39 #[.val (.int p1), .val (.int p2), .val (.int p3), .val (.int l1), .val (.int l2), .val (.int ch), .val (.int nu), .val (.ref n1), .unset, .unset, .unset, .unset, .unset, .unset, .unset, .unset] [(.int p3), (.int l2)])) rfl (by rw [hml]; rfl) (argsL := [(.int l2), (.int p3)]) (rest := []) (lenOf pd_0_0 rfl) rfl (by show 2 * 0 + _ ≤ _; exact Nat.le_of_eq rfl) (hb hby at_39) (fun _ _ => ⟨rfl, rfl, (by decide : 1 + 1 ≤ _), (by decide : 3 + 3 ≤ _)⟩)
  dsimp only [Pt.U, Pt.locs, Pt.cells, Pt.slots] at X14 l14 y14 z14 st14 hQ14
  subst l14 y14 z14
  obtain ⟨n2, f_n2, rfl, N14q, K14, s_n2, V14⟩ := hQ14
  have N14 := Fr.app N10 N14q
  have pre15 : own_Go p e below (s₁.setTop (entryFrame m #[(.int p1), (.int p2), (.int p3)] maxLocals)) (T14.setTop (mkF m 42 #[.val (.int p1), .val (.int p2), .val (.int p3), .val (.int l1), .val (.int l2), .val (.int ch), .val (.int nu), .val (.ref n1), .unset, .unset, .unset, .unset, .unset, .unset, .unset, .unset] [(.ref n2)])) := fun t k => pre13 t (st14 t k)
  have ne_n1_n2 : n1 ≠ n2 := Nat.ne_of_lt (Nat.lt_of_lt_of_le V10.lt s_n2)
  have sz_n2 : h0.size ≤ n2 := Nat.le_trans K_12.1 s_n2
  have g_n2 : n0 ≤ n2 := Nat.le_trans Z0 sz_n2
  have V_16 := V10.keep K14 nin0
  have K_17 := K_12.trans K14 all0
  have pre18 : own_Go p e below (s₁.setTop (entryFrame m #[(.int p1), (.int p2), (.int p3)] maxLocals)) (T14.setTop (mkF m 49 #[.val (.int p1), .val (.int p2), .val (.int p3), .val (.int l1), .val (.int l2), .val (.int ch), .val (.int nu), .val (.ref n1), .val (.ref n2), .val (.int (ch.toInt8.toInt32)), .unset, .unset, .unset, .unset, .unset, .unset] [])) := fun t k => pre15 t (by
      show Steps p.tables e below (T14.setTop (mkF m 42 #[.val (.int p1), .val (.int p2), .val (.int p3), .val (.int l1), .val (.int l2), .val (.int ch), .val (.int nu), .val (.ref n1), .unset, .unset, .unset, .unset, .unset, .unset, .unset, .unset] [(.ref n2)])) _
      refine XS.astore X14.here hx rfl (hb hby at_42) rfl rfl (l' := #[.val (.int p1), .val (.int p2), .val (.int p3), .val (.int l1), .val (.int l2), .val (.int ch), .val (.int nu), .val (.ref n1), .val (.ref n2), .unset, .unset, .unset, .unset, .unset, .unset, .unset]) rfl ?_
      show Steps p.tables e below (T14.setTop (mkF m 44 #[.val (.int p1), .val (.int p2), .val (.int p3), .val (.int l1), .val (.int l2), .val (.int ch), .val (.int nu), .val (.ref n1), .val (.ref n2), .unset, .unset, .unset, .unset, .unset, .unset, .unset] [])) _
      refine XS.iload X14.here hx rfl (hb hby at_44) rfl ?_
      show Steps p.tables e below (T14.setTop (mkF m 46 #[.val (.int p1), .val (.int p2), .val (.int p3), .val (.int l1), .val (.int l2), .val (.int ch), .val (.int nu), .val (.ref n1), .val (.ref n2), .unset, .unset, .unset, .unset, .unset, .unset, .unset] [(.int ch)])) _
      refine XT.i2b X14.here hx rfl (hb hby at_46) rfl ?_
      show Steps p.tables e below (T14.setTop (mkF m 47 #[.val (.int p1), .val (.int p2), .val (.int p3), .val (.int l1), .val (.int l2), .val (.int ch), .val (.int nu), .val (.ref n1), .val (.ref n2), .unset, .unset, .unset, .unset, .unset, .unset, .unset] [(.int (ch.toInt8.toInt32))])) _
      refine XS.istore X14.here hx rfl (hb hby at_47) rfl (l' := #[.val (.int p1), .val (.int p2), .val (.int p3), .val (.int l1), .val (.int l2), .val (.int ch), .val (.int nu), .val (.ref n1), .val (.ref n2), .val (.int (ch.toInt8.toInt32)), .unset, .unset, .unset, .unset, .unset, .unset]) rfl ?_
      exact k)
  obtain ⟨T19, h19, X19, e19, E19, A19, D19, -, st19⟩ := newO X14 hx hZ hown (hw _ (List.mem_of_getElem? (i := 5) rfl)) (hw _ (List.mem_of_getElem? (i := 6) rfl)) (hw _ (List.mem_of_getElem? (i := 7) rfl)) rfl (g := (mkF m 49 #[.val (.int p1), .val (.int p2), .val (.int p3), .val (.int l1), .val (.int l2), .val (.int ch), .val (.int nu), .val (.ref n1), .val (.ref n2), .val (.int (ch.toInt8.toInt32)), .unset, .unset, .unset, .unset, .unset, .unset] [])) rfl (hb hby at_49) (by decide) (by decide)
  obtain ⟨b19, g19⟩ : ∃ z, z = T14.heap.size := ⟨_, rfl⟩
  rw [← g19] at A19 D19 st19
  have pre20 : own_Go p e below (s₁.setTop (entryFrame m #[(.int p1), (.int p2), (.int p3)] maxLocals)) (T19.setTop (mkF m 52 #[.val (.int p1), .val (.int p2), .val (.int p3), .val (.int l1), .val (.int l2), .val (.int ch), .val (.int nu), .val (.ref n1), .val (.ref n2), .val (.int (ch.toInt8.toInt32)), .unset, .unset, .unset, .unset, .unset, .unset] [(.ref b19)])) := fun t k => pre18 t (st19 t k)
  have V_21 := V_16.ext E19
  have V_22 := V14.ext E19
  have K_23 := K_17.ext E19
  have ne_n1_b19 : n1 ≠ b19 := Nat.ne_of_lt (Nat.lt_of_lt_of_eq V_16.lt g19.symm)
  have ne_n2_b19 : n2 ≠ b19 := Nat.ne_of_lt (Nat.lt_of_lt_of_eq V14.lt g19.symm)
  have sz_b19 : h0.size ≤ b19 := Nat.le_trans K_17.1 (Nat.le_of_eq g19.symm)
  have g_b19 : n0 ≤ b19 := Nat.le_trans Z0 sz_b19
  have F_bytes_19 : Fld Z h19 b19 "com/example/gyre/gyre/NodeLabel" "bytes" "[B" .null := D19 (Or.inl (hw _ (List.mem_of_getElem? (i := 15) rfl))) (ty := (.array .byte)) (by decide)
  have F_separator_19 : Fld Z h19 b19 "com/example/gyre/gyre/NodeLabel" "separator" "B" (.int (0 : Int32)) := D19 (Or.inr (hw _ (List.mem_of_getElem? (i := 17) rfl))) (ty := .byte) (by decide)
  have F_numberFrom_19 : Fld Z h19 b19 "com/example/gyre/gyre/NodeLabel" "numberFrom" "I" (.int (0 : Int32)) := D19 (Or.inl (hw _ (List.mem_of_getElem? (i := 28) rfl))) (ty := .int) (by decide)
  have Zh3 : n0 ≤ h19.size := Nat.le_trans Z0 K_23.1
  have pre24 : own_Go p e below (s₁.setTop (entryFrame m #[(.int p1), (.int p2), (.int p3)] maxLocals)) (T19.setTop (mkF m 55 #[.val (.int p1), .val (.int p2), .val (.int p3), .val (.int l1), .val (.int l2), .val (.int ch), .val (.int nu), .val (.ref n1), .val (.ref n2), .val (.int (ch.toInt8.toInt32)), .unset, .unset, .unset, .unset, .unset, .unset] [(.int ch), (.ref b19), (.ref b19)])) := fun t k => pre20 t (by
      show Steps p.tables e below (T19.setTop (mkF m 52 #[.val (.int p1), .val (.int p2), .val (.int p3), .val (.int l1), .val (.int l2), .val (.int ch), .val (.int nu), .val (.ref n1), .val (.ref n2), .val (.int (ch.toInt8.toInt32)), .unset, .unset, .unset, .unset, .unset, .unset] [(.ref b19)])) _
      refine XS.dup X19.here hx rfl (hb hby at_52) rfl rfl ?_
      show Steps p.tables e below (T19.setTop (mkF m 53 #[.val (.int p1), .val (.int p2), .val (.int p3), .val (.int l1), .val (.int l2), .val (.int ch), .val (.int nu), .val (.ref n1), .val (.ref n2), .val (.int (ch.toInt8.toInt32)), .unset, .unset, .unset, .unset, .unset, .unset] [(.ref b19), (.ref b19)])) _
      refine XS.iload X19.here hx rfl (hb hby at_53) rfl ?_
      exact k)
  obtain ⟨_, _, ⟨T25, L25, k25, n25⟩, -, X25, ⟨Lc25, hQ25, l25, y25, z25⟩, st25⟩ := X19.specialBack hx (y := (⟨"com/example/gyre/gyre/NodeLabel", "<init>", "(C)V"⟩ : MethodName)) rfl hown (mvT hZ (hw _ (List.mem_of_getElem? (i := 8) rfl))) (mvT hZ (hw _ (List.mem_of_getElem? (i := 9) rfl))) (mvT hZ (hw _ (List.mem_of_getElem? (i := 10) rfl))) (by decide) (backOf (W := 1) (rm2 l Z a0 hw [] b19 ch h19 n0 Zh3 A19 F_bytes_19 F_separator_19 F_numberFrom_19 g_b19) hZ (hw _ (List.mem_of_getElem? (i := 10) rfl)) (hw _ (List.mem_of_getElem? (i := 7) rfl)) (by decide) (by decide)) (g := (mkF m 55 #[.val (.int p1), .val (.int p2), .val (.int p3), .val (.int l1), .val (.int l2), .val (.int ch), .val (.int nu), .val (.ref n1), .val (.ref n2), .val (.int (ch.toInt8.toInt32)), .unset, .unset, .unset, .unset, .unset, .unset] [(.int ch), (.ref b19), (.ref b19)])) rfl (by rw [hml]; rfl) (Steps.refl _) (a := b19) (argsL := [(.int ch)]) (rest := [(.ref b19)]) (lenOf pd_0_1 rfl) rfl (by show 2 * 0 + _ ≤ _; exact Nat.le_of_eq rfl) (hb hby at_55) (fun _ _ => ⟨rfl, e19, (by decide : 3 + 1 ≤ _), (by decide : 9 + 0 ≤ _)⟩)
  dsimp only [Pt.U, Pt.locs, Pt.cells, Pt.slots] at X25 l25 y25 z25 st25 hQ25
  subst l25 y25 z25
  obtain ⟨rfl, N25q, K25, ab0, s_ab0, Fb25, Fs25, Fn25, V25⟩ := hQ25
  have N25 := Fr.app N14 N25q
  have pre26 : own_Go p e below (s₁.setTop (entryFrame m #[(.int p1), (.int p2), (.int p3)] maxLocals)) (T25.setTop (mkF m 58 #[.val (.int p1), .val (.int p2), .val (.int p3), .val (.int l1), .val (.int l2), .val (.int ch), .val (.int nu), .val (.ref n1), .val (.ref n2), .val (.int (ch.toInt8.toInt32)), .unset, .unset, .unset, .unset, .unset, .unset] [(.ref b19)])) := fun t k => pre24 t (st25.trans k)
  have ne_b19_ab0 : b19 ≠ ab0 := Nat.ne_of_lt (Nat.lt_of_lt_of_le A19.lt s_ab0)
  have ne_n1_ab0 : n1 ≠ ab0 := Nat.ne_of_lt (Nat.lt_of_lt_of_le V_21.lt s_ab0)
  have ne_n2_ab0 : n2 ≠ ab0 := Nat.ne_of_lt (Nat.lt_of_lt_of_le V_22.lt s_ab0)
  have sz_ab0 : h0.size ≤ ab0 := Nat.le_trans K_23.1 s_ab0
  have g_ab0 : n0 ≤ ab0 := Nat.le_trans Z0 sz_ab0
  have Ex_27 := A19.keep K25
  have V_28 := V_21.keep K25 (ninS ne_n1_b19 nin0)
  have V_29 := V_22.keep K25 (ninS ne_n2_b19 nin0)
  have K_30 := K_23.trans K25 (allS (Or.inr sz_b19) all0)
  have Zh4 : n0 ≤ T25.heap.size := Nat.le_trans Z0 K_30.1
  have pre31 : own_Go p e below (s₁.setTop (entryFrame m #[(.int p1), (.int p2), (.int p3)] maxLocals)) (T25.setTop (mkF m 64 #[.val (.int p1), .val (.int p2), .val (.int p3), .val (.int l1), .val (.int l2), .val (.int ch), .val (.int nu), .val (.ref n1), .val (.ref n2), .val (.int (ch.toInt8.toInt32)), .val (.ref b19), .unset, .unset, .unset, .unset, .unset] [(.ref n1), (.ref b19)])) := fun t k => pre26 t (by
      show Steps p.tables e below (T25.setTop (mkF m 58 #[.val (.int p1), .val (.int p2), .val (.int p3), .val (.int l1), .val (.int l2), .val (.int ch), .val (.int nu), .val (.ref n1), .val (.ref n2), .val (.int (ch.toInt8.toInt32)), .unset, .unset, .unset, .unset, .unset, .unset] [(.ref b19)])) _
      refine XS.astore X25.here hx rfl (hb hby at_58) rfl rfl (l' := #[.val (.int p1), .val (.int p2), .val (.int p3), .val (.int l1), .val (.int l2), .val (.int ch), .val (.int nu), .val (.ref n1), .val (.ref n2), .val (.int (ch.toInt8.toInt32)), .val (.ref b19), .unset, .unset, .unset, .unset, .unset]) rfl ?_
      show Steps p.tables e below (T25.setTop (mkF m 60 #[.val (.int p1), .val (.int p2), .val (.int p3), .val (.int l1), .val (.int l2), .val (.int ch), .val (.int nu), .val (.ref n1), .val (.ref n2), .val (.int (ch.toInt8.toInt32)), .val (.ref b19), .unset, .unset, .unset, .unset, .unset] [])) _
      refine XS.aload X25.here hx rfl (hb hby at_60) rfl rfl ?_
      show Steps p.tables e below (T25.setTop (mkF m 62 #[.val (.int p1), .val (.int p2), .val (.int p3), .val (.int l1), .val (.int l2), .val (.int ch), .val (.int nu), .val (.ref n1), .val (.ref n2), .val (.int (ch.toInt8.toInt32)), .val (.ref b19), .unset, .unset, .unset, .unset, .unset] [(.ref b19)])) _
      refine XS.aload X25.here hx rfl (hb hby at_62) rfl rfl ?_
      exact k)
  obtain ⟨cq32, kq32, q32a, q32b, q32c⟩ := isOf hZ rfl Ex_27
  obtain ⟨_, _, ⟨T32, L32, k32, n32⟩, -, X32, ⟨Lc32, hQ32, l32, y32, z32⟩, st32⟩ := X25.virtualBack hx (y := (⟨"com/example/gyre/gyre/NodeLabel", "startNode", "([B)V"⟩ : MethodName)) (z := (⟨"com/example/gyre/gyre/NodeLabel", "startNode", "([B)V"⟩ : MethodName)) hown (mvT hZ (hw _ (List.mem_of_getElem? (i := 18) rfl))) (mvT hZ (hw _ (List.mem_of_getElem? (i := 19) rfl))) (notFace_of_selects (args := #[]) (mvT hZ (hw _ (List.mem_of_getElem? (i := 21) rfl)))) (mvT hZ (hw _ (List.mem_of_getElem? (i := 21) rfl))) (mvT hZ (hw _ (List.mem_of_getElem? (i := 20) rfl))) (by decide) (backOf (W := 0) (rm7 l Z a0 hw [] b19 n1 ab0 (ch.toInt8.toInt32) l1 (0 : Int32) _ f_n1 (fun _ => 0) T25.heap n0 Zh4 Ex_27 Fb25 Fs25 Fn25 V_28 V25 g_b19 g_ab0 (Ne.symm ne_n1_b19) ne_b19_ab0 ne_n1_ab0 hl1 hsb (own_lt (by omega))) hZ (hw _ (List.mem_of_getElem? (i := 22) rfl)) (hw _ (List.mem_of_getElem? (i := 7) rfl)) (by decide) (by decide)) q32a q32c (g := (mkF m 64 #[.val (.int p1), .val (.int p2), .val (.int p3), .val (.int l1), .val (.int l2), .val (.int ch), .val (.int nu), .val (.ref n1), .val (.ref n2), .val (.int (ch.toInt8.toInt32)), .val (.ref b19), .unset, .unset, .unset, .unset, .unset] [(.ref n1), (.ref b19)])) rfl (by rw [hml]; rfl) (Steps.refl _) (argsL := [(.ref n1)]) (rest := []) (lenOf pd_0_2 rfl) rfl (by show 2 * 0 + _ ≤ _; exact Nat.le_of_eq rfl) (hb hby at_64) (fun _ _ => ⟨rfl, rfl, (by decide : 4 + 1 ≤ _), (by decide : 9 + 14 ≤ _)⟩)
  dsimp only [Pt.U, Pt.locs, Pt.cells, Pt.slots] at X32 l32 y32 z32 st32 hQ32
  subst l32 y32 z32
  obtain ⟨rfl, N32q, K32, ab1, s_ab1, Fb32, Fs32, Fn32, V32⟩ := hQ32
  have N32 := Fr.app N25 N32q
  have pre33 : own_Go p e below (s₁.setTop (entryFrame m #[(.int p1), (.int p2), (.int p3)] maxLocals)) (T32.setTop (mkF m 67 #[.val (.int p1), .val (.int p2), .val (.int p3), .val (.int l1), .val (.int l2), .val (.int ch), .val (.int nu), .val (.ref n1), .val (.ref n2), .val (.int (ch.toInt8.toInt32)), .val (.ref b19), .unset, .unset, .unset, .unset, .unset] [])) := fun t k => pre31 t (st32.trans k)
  have ne_b19_ab1 : b19 ≠ ab1 := Nat.ne_of_lt (Nat.lt_of_lt_of_le Ex_27.lt s_ab1)
  have ne_n1_ab1 : n1 ≠ ab1 := Nat.ne_of_lt (Nat.lt_of_lt_of_le V_28.lt s_ab1)
  have ne_n2_ab1 : n2 ≠ ab1 := Nat.ne_of_lt (Nat.lt_of_lt_of_le V_29.lt s_ab1)
  have ne_ab0_ab1 : ab0 ≠ ab1 := Nat.ne_of_lt (Nat.lt_of_lt_of_le V25.lt s_ab1)
  have sz_ab1 : h0.size ≤ ab1 := Nat.le_trans K_30.1 s_ab1
  have g_ab1 : n0 ≤ ab1 := Nat.le_trans Z0 sz_ab1
  have Ex_34 := Ex_27.keep K32
  have V_35 := V_28.keep K32 (ninS ne_n1_b19 nin0)
  have V_36 := V_29.keep K32 (ninS ne_n2_b19 nin0)
  have V_37 := V25.keep K32 (ninS (Ne.symm ne_b19_ab0) nin0)
  have K_38 := K_30.trans K32 (allS (Or.inr sz_b19) all0)
  have Zh5 : n0 ≤ T32.heap.size := Nat.le_trans Z0 K_38.1
  have pre39 : own_Go p e below (s₁.setTop (entryFrame m #[(.int p1), (.int p2), (.int p3)] maxLocals)) (T32.setTop (mkF m 69 #[.val (.int p1), .val (.int p2), .val (.int p3), .val (.int l1), .val (.int l2), .val (.int ch), .val (.int nu), .val (.ref n1), .val (.ref n2), .val (.int (ch.toInt8.toInt32)), .val (.ref b19), .unset, .unset, .unset, .unset, .unset] [(.ref b19)])) := fun t k => pre33 t (by
      show Steps p.tables e below (T32.setTop (mkF m 67 #[.val (.int p1), .val (.int p2), .val (.int p3), .val (.int l1), .val (.int l2), .val (.int ch), .val (.int nu), .val (.ref n1), .val (.ref n2), .val (.int (ch.toInt8.toInt32)), .val (.ref b19), .unset, .unset, .unset, .unset, .unset] [])) _
      refine XS.aload X32.here hx rfl (hb hby at_67) rfl rfl ?_
      exact k)
  obtain ⟨cq40, kq40, q40a, q40b, q40c⟩ := isOf hZ rfl Ex_34
  obtain ⟨_, _, ⟨T40, L40, k40, n40⟩, -, X40, ⟨Lc40, hQ40, l40, y40, z40⟩, st40⟩ := X32.virtualBack hx (y := (⟨"com/example/gyre/gyre/NodeLabel", "bytes", "()[B"⟩ : MethodName)) (z := (⟨"com/example/gyre/gyre/NodeLabel", "bytes", "()[B"⟩ : MethodName)) hown (mvT hZ (hw _ (List.mem_of_getElem? (i := 29) rfl))) (mvT hZ (hw _ (List.mem_of_getElem? (i := 30) rfl))) (notFace_of_selects (args := #[]) (mvT hZ (hw _ (List.mem_of_getElem? (i := 32) rfl)))) (mvT hZ (hw _ (List.mem_of_getElem? (i := 32) rfl))) (mvT hZ (hw _ (List.mem_of_getElem? (i := 31) rfl))) (by decide) (backOf (W := 0) (rm4 l Z a0 hw [] b19 ab1 T32.heap n0 Zh5 Fb32) hZ (hw _ (List.mem_of_getElem? (i := 33) rfl)) (hw _ (List.mem_of_getElem? (i := 7) rfl)) (by decide) (by decide)) q40a q40c (g := (mkF m 69 #[.val (.int p1), .val (.int p2), .val (.int p3), .val (.int l1), .val (.int l2), .val (.int ch), .val (.int nu), .val (.ref n1), .val (.ref n2), .val (.int (ch.toInt8.toInt32)), .val (.ref b19), .unset, .unset, .unset, .unset, .unset] [(.ref b19)])) rfl (by rw [hml]; rfl) (Steps.refl _) (argsL := []) (rest := []) (lenOf pd_0_3 rfl) rfl (by show 2 * 0 + _ ≤ _; exact Nat.le_of_eq rfl) (hb hby at_69) (fun _ _ => ⟨rfl, rfl, (by decide : 5 + 0 ≤ _), (by decide : 23 + 0 ≤ _)⟩)
  dsimp only [Pt.U, Pt.locs, Pt.cells, Pt.slots] at X40 l40 y40 z40 st40 hQ40
  subst l40 y40 z40
  obtain ⟨rfl, N40q, hh40⟩ := hQ40
  have N40 := Fr.app N32 N40q
  have pre41 : own_Go p e below (s₁.setTop (entryFrame m #[(.int p1), (.int p2), (.int p3)] maxLocals)) (T40.setTop (mkF m 72 #[.val (.int p1), .val (.int p2), .val (.int p3), .val (.int l1), .val (.int l2), .val (.int ch), .val (.int nu), .val (.ref n1), .val (.ref n2), .val (.int (ch.toInt8.toInt32)), .val (.ref b19), .unset, .unset, .unset, .unset, .unset] [(.ref ab1)])) := fun t k => pre39 t (st40.trans k)
  have F_42 := Fb32
  rw [← hh40] at F_42
  have F_43 := Fs32
  rw [← hh40] at F_43
  have F_44 := Fn32
  rw [← hh40] at F_44
  have Ex_45 := Ex_34
  rw [← hh40] at Ex_45
  have V_46 := V_35
  rw [← hh40] at V_46
  have V_47 := V_36
  rw [← hh40] at V_47
  have V_48 := V_37
  rw [← hh40] at V_48
  have V_49 := V32
  rw [← hh40] at V_49
  have K_50 := K_38
  rw [← hh40] at K_50
  have pre51 : own_Go p e below (s₁.setTop (entryFrame m #[(.int p1), (.int p2), (.int p3)] maxLocals)) (T40.setTop (mkF m 81 #[.val (.int p1), .val (.int p2), .val (.int p3), .val (.int l1), .val (.int l2), .val (.int ch), .val (.int nu), .val (.ref n1), .val (.ref n2), .val (.int (ch.toInt8.toInt32)), .val (.ref b19), .val (.ref ab1), .unset, .unset, .unset, .unset] [(.ref ab1)])) := fun t k => pre41 t (by
      show Steps p.tables e below (T40.setTop (mkF m 72 #[.val (.int p1), .val (.int p2), .val (.int p3), .val (.int l1), .val (.int l2), .val (.int ch), .val (.int nu), .val (.ref n1), .val (.ref n2), .val (.int (ch.toInt8.toInt32)), .val (.ref b19), .unset, .unset, .unset, .unset, .unset] [(.ref ab1)])) _
      refine XS.astore X40.here hx rfl (hb hby at_72) rfl rfl (l' := #[.val (.int p1), .val (.int p2), .val (.int p3), .val (.int l1), .val (.int l2), .val (.int ch), .val (.int nu), .val (.ref n1), .val (.ref n2), .val (.int (ch.toInt8.toInt32)), .val (.ref b19), .val (.ref ab1), .unset, .unset, .unset, .unset]) rfl ?_
      show Steps p.tables e below (T40.setTop (mkF m 74 #[.val (.int p1), .val (.int p2), .val (.int p3), .val (.int l1), .val (.int l2), .val (.int ch), .val (.int nu), .val (.ref n1), .val (.ref n2), .val (.int (ch.toInt8.toInt32)), .val (.ref b19), .val (.ref ab1), .unset, .unset, .unset, .unset] [])) _
      refine XS.aload X40.here hx rfl (hb hby at_74) rfl rfl ?_
      show Steps p.tables e below (T40.setTop (mkF m 76 #[.val (.int p1), .val (.int p2), .val (.int p3), .val (.int l1), .val (.int l2), .val (.int ch), .val (.int nu), .val (.ref n1), .val (.ref n2), .val (.int (ch.toInt8.toInt32)), .val (.ref b19), .val (.ref ab1), .unset, .unset, .unset, .unset] [(.ref ab1)])) _
      refine XS.ifnullNo X40.here hx rfl (hb hby at_76) rfl ?_
      show Steps p.tables e below (T40.setTop (mkF m 79 #[.val (.int p1), .val (.int p2), .val (.int p3), .val (.int l1), .val (.int l2), .val (.int ch), .val (.int nu), .val (.ref n1), .val (.ref n2), .val (.int (ch.toInt8.toInt32)), .val (.ref b19), .val (.ref ab1), .unset, .unset, .unset, .unset] [])) _
      refine XS.aload X40.here hx rfl (hb hby at_79) rfl rfl ?_
      exact k)
  obtain ⟨cl52, Ar52, ln52⟩ := own_A.len V_49
  have pre53 : own_Go p e below (s₁.setTop (entryFrame m #[(.int p1), (.int p2), (.int p3)] maxLocals)) (T40.setTop (mkF m 82 #[.val (.int p1), .val (.int p2), .val (.int p3), .val (.int l1), .val (.int l2), .val (.int ch), .val (.int nu), .val (.ref n1), .val (.ref n2), .val (.int (ch.toInt8.toInt32)), .val (.ref b19), .val (.ref ab1), .unset, .unset, .unset, .unset] [(.int (l1 + (11 : Int32)))])) := fun t k => pre51 t (X40.arraylength hx (by rw [show T40.heap = T40.heap from rfl]; exact Ar52.1) (State.isArrayOf_alike hZ.alike Ar52.2.1) (g := (mkF m 81 #[.val (.int p1), .val (.int p2), .val (.int p3), .val (.int l1), .val (.int l2), .val (.int ch), .val (.int nu), .val (.ref n1), .val (.ref n2), .val (.int (ch.toInt8.toInt32)), .val (.ref b19), .val (.ref ab1), .unset, .unset, .unset, .unset] [(.ref ab1)])) rfl rfl (hb hby at_81) t (by rw [ln52]; exact k))
  have Zh6 : n0 ≤ T40.heap.size := Nat.le_trans Z0 K_50.1
  have pre54 : own_Go p e below (s₁.setTop (entryFrame m #[(.int p1), (.int p2), (.int p3)] maxLocals)) (T40.setTop (mkF m 96 #[.val (.int p1), .val (.int p2), .val (.int p3), .val (.int l1), .val (.int l2), .val (.int ch), .val (.int nu), .val (.ref n1), .val (.ref n2), .val (.int (ch.toInt8.toInt32)), .val (.ref b19), .val (.ref ab1), .unset, .unset, .unset, .unset] [(.int l1), (.ref n1), (.ref ab1)])) := fun t k => pre53 t (by
      show Steps p.tables e below (T40.setTop (mkF m 82 #[.val (.int p1), .val (.int p2), .val (.int p3), .val (.int l1), .val (.int l2), .val (.int ch), .val (.int nu), .val (.ref n1), .val (.ref n2), .val (.int (ch.toInt8.toInt32)), .val (.ref b19), .val (.ref ab1), .unset, .unset, .unset, .unset] [(.int (l1 + (11 : Int32)))])) _
      refine XS.iloadN X40.here hx rfl (hb hby at_82) rfl ?_
      show Steps p.tables e below (T40.setTop (mkF m 83 #[.val (.int p1), .val (.int p2), .val (.int p3), .val (.int l1), .val (.int l2), .val (.int ch), .val (.int nu), .val (.ref n1), .val (.ref n2), .val (.int (ch.toInt8.toInt32)), .val (.ref b19), .val (.ref ab1), .unset, .unset, .unset, .unset] [(.int l1), (.int (l1 + (11 : Int32)))])) _
      refine XS.bipush X40.here hx rfl (hb hby at_83) ?_
      show Steps p.tables e below (T40.setTop (mkF m 85 #[.val (.int p1), .val (.int p2), .val (.int p3), .val (.int l1), .val (.int l2), .val (.int ch), .val (.int nu), .val (.ref n1), .val (.ref n2), .val (.int (ch.toInt8.toInt32)), .val (.ref b19), .val (.ref ab1), .unset, .unset, .unset, .unset] [(.int (11 : Int32)), (.int l1), (.int (l1 + (11 : Int32)))])) _
      refine XS.iadd X40.here hx rfl (hb hby at_85) rfl ?_
      show Steps p.tables e below (T40.setTop (mkF m 86 #[.val (.int p1), .val (.int p2), .val (.int p3), .val (.int l1), .val (.int l2), .val (.int ch), .val (.int nu), .val (.ref n1), .val (.ref n2), .val (.int (ch.toInt8.toInt32)), .val (.ref b19), .val (.ref ab1), .unset, .unset, .unset, .unset] [(.int (l1 + (11 : Int32))), (.int (l1 + (11 : Int32)))])) _
      refine XS.icmpYes X40.here hx rfl (pc0 := 86) (pc' := 91) rfl (hb hby at_86) rfl (XT.ii_ge_t Int32.lt_irrefl) (by decide) (by decide) ?_
      show Steps p.tables e below (T40.setTop (mkF m 91 #[.val (.int p1), .val (.int p2), .val (.int p3), .val (.int l1), .val (.int l2), .val (.int ch), .val (.int nu), .val (.ref n1), .val (.ref n2), .val (.int (ch.toInt8.toInt32)), .val (.ref b19), .val (.ref ab1), .unset, .unset, .unset, .unset] [])) _
      refine XS.aload X40.here hx rfl (hb hby at_91) rfl rfl ?_
      show Steps p.tables e below (T40.setTop (mkF m 93 #[.val (.int p1), .val (.int p2), .val (.int p3), .val (.int l1), .val (.int l2), .val (.int ch), .val (.int nu), .val (.ref n1), .val (.ref n2), .val (.int (ch.toInt8.toInt32)), .val (.ref b19), .val (.ref ab1), .unset, .unset, .unset, .unset] [(.ref ab1)])) _
      refine XS.aload X40.here hx rfl (hb hby at_93) rfl rfl ?_
      show Steps p.tables e below (T40.setTop (mkF m 95 #[.val (.int p1), .val (.int p2), .val (.int p3), .val (.int l1), .val (.int l2), .val (.int ch), .val (.int nu), .val (.ref n1), .val (.ref n2), .val (.int (ch.toInt8.toInt32)), .val (.ref b19), .val (.ref ab1), .unset, .unset, .unset, .unset] [(.ref n1), (.ref ab1)])) _
      refine XS.iloadN X40.here hx rfl (hb hby at_95) rfl ?_
      exact k)
  obtain ⟨_, _, ⟨T55, L55, k55, n55⟩, -, X55, ⟨Lc55, hQ55, l55, y55, z55⟩, st55⟩ := Jvm.LawKit.callS X40 hx (y := (⟨"com/example/gyre/gyre/NodeLabelStartNodePinLaw", "prefix", "([B[BI)Z"⟩ : MethodName)) hown (mvT hZ (hw _ (List.mem_of_getElem? (i := 34) rfl))) (mvT hZ (hw _ (List.mem_of_getElem? (i := 35) rfl))) (mvT hZ (hw _ (List.mem_of_getElem? (i := 2) rfl))) (mvT hZ (hw _ (List.mem_of_getElem? (i := 36) rfl))) (by decide) (backOf (W := 0) (rm5 l Z a0 hw [] ab1 n1 l1 (l1 + (11 : Int32)) _ _ T40.heap n0 Zh6 V_49 V_46 (by omega) (fun i hi => (own_upd_miss _ _ (Nat.ne_of_lt hi)).trans (own_mix2_lo hi))) hZ (hw _ (List.mem_of_getElem? (i := 36) rfl)) (hw _ (List.mem_of_getElem? (i := 2) rfl)) (by decide) (by decide)) (g := (mkF m 96 #[.val (.int p1), .val (.int p2), .val (.int p3), .val (.int l1), .val (.int l2), .val (.int ch), .val (.int nu), .val (.ref n1), .val (.ref n2), .val (.int (ch.toInt8.toInt32)), .val (.ref b19), .val (.ref ab1), .unset, .unset, .unset, .unset] [(.int l1), (.ref n1), (.ref ab1)])) rfl (by rw [hml]; rfl) (argsL := [(.ref ab1), (.ref n1), (.int l1)]) (rest := []) (lenOf pd_0_4 rfl) rfl (by show 2 * 0 + _ ≤ _; exact Nat.le_of_eq rfl) (hb hby at_96) (fun _ _ => ⟨rfl, rfl, (by decide : 5 + 0 ≤ _), (by decide : 23 + 0 ≤ _)⟩)
  dsimp only [Pt.U, Pt.locs, Pt.cells, Pt.slots] at X55 l55 y55 z55 st55 hQ55
  subst l55 y55 z55
  obtain ⟨rfl, N55q, hh55⟩ := hQ55
  have N55 := Fr.app N40 N55q
  have pre56 : own_Go p e below (s₁.setTop (entryFrame m #[(.int p1), (.int p2), (.int p3)] maxLocals)) (T55.setTop (mkF m 99 #[.val (.int p1), .val (.int p2), .val (.int p3), .val (.int l1), .val (.int l2), .val (.int ch), .val (.int nu), .val (.ref n1), .val (.ref n2), .val (.int (ch.toInt8.toInt32)), .val (.ref b19), .val (.ref ab1), .unset, .unset, .unset, .unset] [(.int (1 : Int32))])) := fun t k => pre54 t (st55 t k)
  have F_57 := F_42
  rw [← hh55] at F_57
  have F_58 := F_43
  rw [← hh55] at F_58
  have F_59 := F_44
  rw [← hh55] at F_59
  have Ex_60 := Ex_45
  rw [← hh55] at Ex_60
  have V_61 := V_46
  rw [← hh55] at V_61
  have V_62 := V_47
  rw [← hh55] at V_62
  have V_63 := V_48
  rw [← hh55] at V_63
  have V_64 := V_49
  rw [← hh55] at V_64
  have K_65 := K_50
  rw [← hh55] at K_65
  have pre66 : own_Go p e below (s₁.setTop (entryFrame m #[(.int p1), (.int p2), (.int p3)] maxLocals)) (T55.setTop (mkF m 105 #[.val (.int p1), .val (.int p2), .val (.int p3), .val (.int l1), .val (.int l2), .val (.int ch), .val (.int nu), .val (.ref n1), .val (.ref n2), .val (.int (ch.toInt8.toInt32)), .val (.ref b19), .val (.ref ab1), .unset, .unset, .unset, .unset] [(.int l1), (.ref ab1)])) := fun t k => pre56 t (by
      show Steps p.tables e below (T55.setTop (mkF m 99 #[.val (.int p1), .val (.int p2), .val (.int p3), .val (.int l1), .val (.int l2), .val (.int ch), .val (.int nu), .val (.ref n1), .val (.ref n2), .val (.int (ch.toInt8.toInt32)), .val (.ref b19), .val (.ref ab1), .unset, .unset, .unset, .unset] [(.int (1 : Int32))])) _
      refine XS.ifNo X55.here hx rfl (hb hby at_99) rfl (XT.i0_eq_f (by decide)) ?_
      show Steps p.tables e below (T55.setTop (mkF m 102 #[.val (.int p1), .val (.int p2), .val (.int p3), .val (.int l1), .val (.int l2), .val (.int ch), .val (.int nu), .val (.ref n1), .val (.ref n2), .val (.int (ch.toInt8.toInt32)), .val (.ref b19), .val (.ref ab1), .unset, .unset, .unset, .unset] [])) _
      refine XS.aload X55.here hx rfl (hb hby at_102) rfl rfl ?_
      show Steps p.tables e below (T55.setTop (mkF m 104 #[.val (.int p1), .val (.int p2), .val (.int p3), .val (.int l1), .val (.int l2), .val (.int ch), .val (.int nu), .val (.ref n1), .val (.ref n2), .val (.int (ch.toInt8.toInt32)), .val (.ref b19), .val (.ref ab1), .unset, .unset, .unset, .unset] [(.ref ab1)])) _
      refine XS.iloadN X55.here hx rfl (hb hby at_104) rfl ?_
      exact k)
  obtain ⟨cl67, Ar67, hin67, hv67⟩ := own_A.at V_64 (j := l1) l1_0 (own_lt (by omega))
  have pre68 : own_Go p e below (s₁.setTop (entryFrame m #[(.int p1), (.int p2), (.int p3)] maxLocals)) (T55.setTop (mkF m 106 #[.val (.int p1), .val (.int p2), .val (.int p3), .val (.int l1), .val (.int l2), .val (.int ch), .val (.int nu), .val (.ref n1), .val (.ref n2), .val (.int (ch.toInt8.toInt32)), .val (.ref b19), .val (.ref ab1), .unset, .unset, .unset, .unset] [(.int (ch.toInt8.toInt32))])) := fun t k => pre66 t (X55.baloadBytes hx (j := l1) (v := .int (ch.toInt8.toInt32)) (by rw [show T55.heap = T55.heap from rfl]; exact Ar67.1) (State.isArrayOf_alike hZ.alike Ar67.2.1) Ar67.2.2 hin67 (hv67.trans (congrArg (fun z => some (Value.int z)) (own_upd_hit _ _ rfl))) (g := (mkF m 105 #[.val (.int p1), .val (.int p2), .val (.int p3), .val (.int l1), .val (.int l2), .val (.int ch), .val (.int nu), .val (.ref n1), .val (.ref n2), .val (.int (ch.toInt8.toInt32)), .val (.ref b19), .val (.ref ab1), .unset, .unset, .unset, .unset] [(.int l1), (.ref ab1)])) rfl rfl (hb hby at_105) t k)
  have pre69 : own_Go p e below (s₁.setTop (entryFrame m #[(.int p1), (.int p2), (.int p3)] maxLocals)) (T55.setTop (mkF m 117 #[.val (.int p1), .val (.int p2), .val (.int p3), .val (.int l1), .val (.int l2), .val (.int ch), .val (.int nu), .val (.ref n1), .val (.ref n2), .val (.int (ch.toInt8.toInt32)), .val (.ref b19), .val (.ref ab1), .unset, .unset, .unset, .unset] [(.ref n2), (.ref b19)])) := fun t k => pre68 t (by
      show Steps p.tables e below (T55.setTop (mkF m 106 #[.val (.int p1), .val (.int p2), .val (.int p3), .val (.int l1), .val (.int l2), .val (.int ch), .val (.int nu), .val (.ref n1), .val (.ref n2), .val (.int (ch.toInt8.toInt32)), .val (.ref b19), .val (.ref ab1), .unset, .unset, .unset, .unset] [(.int (ch.toInt8.toInt32))])) _
      refine XS.iload X55.here hx rfl (hb hby at_106) rfl ?_
      show Steps p.tables e below (T55.setTop (mkF m 108 #[.val (.int p1), .val (.int p2), .val (.int p3), .val (.int l1), .val (.int l2), .val (.int ch), .val (.int nu), .val (.ref n1), .val (.ref n2), .val (.int (ch.toInt8.toInt32)), .val (.ref b19), .val (.ref ab1), .unset, .unset, .unset, .unset] [(.int (ch.toInt8.toInt32)), (.int (ch.toInt8.toInt32))])) _
      refine XS.icmpYes X55.here hx rfl (pc0 := 108) (pc' := 113) rfl (hb hby at_108) rfl (XT.ii_eq_t rfl) (by decide) (by decide) ?_
      show Steps p.tables e below (T55.setTop (mkF m 113 #[.val (.int p1), .val (.int p2), .val (.int p3), .val (.int l1), .val (.int l2), .val (.int ch), .val (.int nu), .val (.ref n1), .val (.ref n2), .val (.int (ch.toInt8.toInt32)), .val (.ref b19), .val (.ref ab1), .unset, .unset, .unset, .unset] [])) _
      refine XS.aload X55.here hx rfl (hb hby at_113) rfl rfl ?_
      show Steps p.tables e below (T55.setTop (mkF m 115 #[.val (.int p1), .val (.int p2), .val (.int p3), .val (.int l1), .val (.int l2), .val (.int ch), .val (.int nu), .val (.ref n1), .val (.ref n2), .val (.int (ch.toInt8.toInt32)), .val (.ref b19), .val (.ref ab1), .unset, .unset, .unset, .unset] [(.ref b19)])) _
      refine XS.aload X55.here hx rfl (hb hby at_115) rfl rfl ?_
      exact k)
  have hf1 : (own_upd (own_mix2 l1 f_n1 (fun _ => 0)) l1.toNatClampNeg (ch.toInt8.toInt32)) l1.toNatClampNeg = (ch.toInt8.toInt32) := own_upd_hit _ _ rfl
  by_cases hc : l1 + (11 : Int32) < l2 + (11 : Int32)
  · skip
    have hc' := hc
    rw [Int32.lt_iff_toInt_lt] at hc'
    have Zh7 : n0 ≤ T55.heap.size := Nat.le_trans Z0 K_65.1
    obtain ⟨cq70, kq70, q70a, q70b, q70c⟩ := isOf hZ rfl Ex_60
    obtain ⟨_, _, ⟨T70, L70, k70, n70⟩, -, X70, ⟨Lc70, hQ70, l70, y70, z70⟩, st70⟩ := X55.virtualBack hx (y := (⟨"com/example/gyre/gyre/NodeLabel", "startNode", "([B)V"⟩ : MethodName)) (z := (⟨"com/example/gyre/gyre/NodeLabel", "startNode", "([B)V"⟩ : MethodName)) hown (mvT hZ (hw _ (List.mem_of_getElem? (i := 18) rfl))) (mvT hZ (hw _ (List.mem_of_getElem? (i := 19) rfl))) (notFace_of_selects (args := #[]) (mvT hZ (hw _ (List.mem_of_getElem? (i := 21) rfl)))) (mvT hZ (hw _ (List.mem_of_getElem? (i := 21) rfl))) (mvT hZ (hw _ (List.mem_of_getElem? (i := 20) rfl))) (by decide) (backOf (W := 0) (rm7 l Z a0 hw [] b19 n2 ab1 (ch.toInt8.toInt32) l2 (l1 + (11 : Int32)) _ f_n2 (own_upd (own_mix2 l1 f_n1 (fun _ => 0)) l1.toNatClampNeg (ch.toInt8.toInt32)) T55.heap n0 Zh7 Ex_60 F_57 F_58 F_59 V_62 V_64 g_b19 g_ab1 (Ne.symm ne_n2_b19) ne_b19_ab1 ne_n2_ab1 hl2 hsb hc) hZ (hw _ (List.mem_of_getElem? (i := 22) rfl)) (hw _ (List.mem_of_getElem? (i := 7) rfl)) (by decide) (by decide)) q70a q70c (g := (mkF m 117 #[.val (.int p1), .val (.int p2), .val (.int p3), .val (.int l1), .val (.int l2), .val (.int ch), .val (.int nu), .val (.ref n1), .val (.ref n2), .val (.int (ch.toInt8.toInt32)), .val (.ref b19), .val (.ref ab1), .unset, .unset, .unset, .unset] [(.ref n2), (.ref b19)])) rfl (by rw [hml]; rfl) (Steps.refl _) (argsL := [(.ref n2)]) (rest := []) (lenOf pd_0_2 rfl) rfl (by show 2 * 0 + _ ≤ _; exact Nat.le_of_eq rfl) (hb hby at_117) (fun _ _ => ⟨rfl, rfl, (by decide : 5 + 1 ≤ _), (by decide : 23 + 14 ≤ _)⟩)
    dsimp only [Pt.U, Pt.locs, Pt.cells, Pt.slots] at X70 l70 y70 z70 st70 hQ70
    subst l70 y70 z70
    obtain ⟨rfl, N70q, K70, ab2, s_ab2, Fb70, Fs70, Fn70, V70⟩ := hQ70
    have N70 := Fr.app N55 N70q
    have pre71 : own_Go p e below (s₁.setTop (entryFrame m #[(.int p1), (.int p2), (.int p3)] maxLocals)) (T70.setTop (mkF m 120 #[.val (.int p1), .val (.int p2), .val (.int p3), .val (.int l1), .val (.int l2), .val (.int ch), .val (.int nu), .val (.ref n1), .val (.ref n2), .val (.int (ch.toInt8.toInt32)), .val (.ref b19), .val (.ref ab1), .unset, .unset, .unset, .unset] [])) := fun t k => pre69 t (st70.trans k)
    have ne_b19_ab2 : b19 ≠ ab2 := Nat.ne_of_lt (Nat.lt_of_lt_of_le Ex_60.lt s_ab2)
    have ne_n1_ab2 : n1 ≠ ab2 := Nat.ne_of_lt (Nat.lt_of_lt_of_le V_61.lt s_ab2)
    have ne_n2_ab2 : n2 ≠ ab2 := Nat.ne_of_lt (Nat.lt_of_lt_of_le V_62.lt s_ab2)
    have ne_ab0_ab2 : ab0 ≠ ab2 := Nat.ne_of_lt (Nat.lt_of_lt_of_le V_63.lt s_ab2)
    have ne_ab1_ab2 : ab1 ≠ ab2 := Nat.ne_of_lt (Nat.lt_of_lt_of_le V_64.lt s_ab2)
    have sz_ab2 : h0.size ≤ ab2 := Nat.le_trans K_65.1 s_ab2
    have g_ab2 : n0 ≤ ab2 := Nat.le_trans Z0 sz_ab2
    have Ex_72 := Ex_60.keep K70
    have V_73 := V_61.keep K70 (ninS ne_n1_b19 nin0)
    have V_74 := V_62.keep K70 (ninS ne_n2_b19 nin0)
    have V_75 := V_63.keep K70 (ninS (Ne.symm ne_b19_ab0) nin0)
    have V_76 := V_64.keep K70 (ninS (Ne.symm ne_b19_ab1) nin0)
    have K_77 := K_65.trans K70 (allS (Or.inr sz_b19) all0)
    have Zh8 : n0 ≤ T70.heap.size := Nat.le_trans Z0 K_77.1
    have pre78 : own_Go p e below (s₁.setTop (entryFrame m #[(.int p1), (.int p2), (.int p3)] maxLocals)) (T70.setTop (mkF m 122 #[.val (.int p1), .val (.int p2), .val (.int p3), .val (.int l1), .val (.int l2), .val (.int ch), .val (.int nu), .val (.ref n1), .val (.ref n2), .val (.int (ch.toInt8.toInt32)), .val (.ref b19), .val (.ref ab1), .unset, .unset, .unset, .unset] [(.ref b19)])) := fun t k => pre71 t (by
        show Steps p.tables e below (T70.setTop (mkF m 120 #[.val (.int p1), .val (.int p2), .val (.int p3), .val (.int l1), .val (.int l2), .val (.int ch), .val (.int nu), .val (.ref n1), .val (.ref n2), .val (.int (ch.toInt8.toInt32)), .val (.ref b19), .val (.ref ab1), .unset, .unset, .unset, .unset] [])) _
        refine XS.aload X70.here hx rfl (hb hby at_120) rfl rfl ?_
        exact k)
    obtain ⟨cq79, kq79, q79a, q79b, q79c⟩ := isOf hZ rfl Ex_72
    obtain ⟨_, _, ⟨T79, L79, k79, n79⟩, -, X79, ⟨Lc79, hQ79, l79, y79, z79⟩, st79⟩ := X70.virtualBack hx (y := (⟨"com/example/gyre/gyre/NodeLabel", "bytes", "()[B"⟩ : MethodName)) (z := (⟨"com/example/gyre/gyre/NodeLabel", "bytes", "()[B"⟩ : MethodName)) hown (mvT hZ (hw _ (List.mem_of_getElem? (i := 29) rfl))) (mvT hZ (hw _ (List.mem_of_getElem? (i := 30) rfl))) (notFace_of_selects (args := #[]) (mvT hZ (hw _ (List.mem_of_getElem? (i := 32) rfl)))) (mvT hZ (hw _ (List.mem_of_getElem? (i := 32) rfl))) (mvT hZ (hw _ (List.mem_of_getElem? (i := 31) rfl))) (by decide) (backOf (W := 0) (rm4 l Z a0 hw [] b19 ab2 T70.heap n0 Zh8 Fb70) hZ (hw _ (List.mem_of_getElem? (i := 33) rfl)) (hw _ (List.mem_of_getElem? (i := 7) rfl)) (by decide) (by decide)) q79a q79c (g := (mkF m 122 #[.val (.int p1), .val (.int p2), .val (.int p3), .val (.int l1), .val (.int l2), .val (.int ch), .val (.int nu), .val (.ref n1), .val (.ref n2), .val (.int (ch.toInt8.toInt32)), .val (.ref b19), .val (.ref ab1), .unset, .unset, .unset, .unset] [(.ref b19)])) rfl (by rw [hml]; rfl) (Steps.refl _) (argsL := []) (rest := []) (lenOf pd_0_3 rfl) rfl (by show 2 * 0 + _ ≤ _; exact Nat.le_of_eq rfl) (hb hby at_122) (fun _ _ => ⟨rfl, rfl, (by decide : 6 + 0 ≤ _), (by decide : 37 + 0 ≤ _)⟩)
    dsimp only [Pt.U, Pt.locs, Pt.cells, Pt.slots] at X79 l79 y79 z79 st79 hQ79
    subst l79 y79 z79
    obtain ⟨rfl, N79q, hh79⟩ := hQ79
    have N79 := Fr.app N70 N79q
    have pre80 : own_Go p e below (s₁.setTop (entryFrame m #[(.int p1), (.int p2), (.int p3)] maxLocals)) (T79.setTop (mkF m 125 #[.val (.int p1), .val (.int p2), .val (.int p3), .val (.int l1), .val (.int l2), .val (.int ch), .val (.int nu), .val (.ref n1), .val (.ref n2), .val (.int (ch.toInt8.toInt32)), .val (.ref b19), .val (.ref ab1), .unset, .unset, .unset, .unset] [(.ref ab2)])) := fun t k => pre78 t (st79.trans k)
    have F_81 := Fb70
    rw [← hh79] at F_81
    have F_82 := Fs70
    rw [← hh79] at F_82
    have F_83 := Fn70
    rw [← hh79] at F_83
    have Ex_84 := Ex_72
    rw [← hh79] at Ex_84
    have V_85 := V_73
    rw [← hh79] at V_85
    have V_86 := V_74
    rw [← hh79] at V_86
    have V_87 := V_75
    rw [← hh79] at V_87
    have V_88 := V_76
    rw [← hh79] at V_88
    have V_89 := V70
    rw [← hh79] at V_89
    have K_90 := K_77
    rw [← hh79] at K_90
    have pre91 : own_Go p e below (s₁.setTop (entryFrame m #[(.int p1), (.int p2), (.int p3)] maxLocals)) (T79.setTop (mkF m 134 #[.val (.int p1), .val (.int p2), .val (.int p3), .val (.int l1), .val (.int l2), .val (.int ch), .val (.int nu), .val (.ref n1), .val (.ref n2), .val (.int (ch.toInt8.toInt32)), .val (.ref b19), .val (.ref ab1), .val (.ref ab2), .unset, .unset, .unset] [(.ref ab2)])) := fun t k => pre80 t (by
        show Steps p.tables e below (T79.setTop (mkF m 125 #[.val (.int p1), .val (.int p2), .val (.int p3), .val (.int l1), .val (.int l2), .val (.int ch), .val (.int nu), .val (.ref n1), .val (.ref n2), .val (.int (ch.toInt8.toInt32)), .val (.ref b19), .val (.ref ab1), .unset, .unset, .unset, .unset] [(.ref ab2)])) _
        refine XS.astore X79.here hx rfl (hb hby at_125) rfl rfl (l' := #[.val (.int p1), .val (.int p2), .val (.int p3), .val (.int l1), .val (.int l2), .val (.int ch), .val (.int nu), .val (.ref n1), .val (.ref n2), .val (.int (ch.toInt8.toInt32)), .val (.ref b19), .val (.ref ab1), .val (.ref ab2), .unset, .unset, .unset]) rfl ?_
        show Steps p.tables e below (T79.setTop (mkF m 127 #[.val (.int p1), .val (.int p2), .val (.int p3), .val (.int l1), .val (.int l2), .val (.int ch), .val (.int nu), .val (.ref n1), .val (.ref n2), .val (.int (ch.toInt8.toInt32)), .val (.ref b19), .val (.ref ab1), .val (.ref ab2), .unset, .unset, .unset] [])) _
        refine XS.aload X79.here hx rfl (hb hby at_127) rfl rfl ?_
        show Steps p.tables e below (T79.setTop (mkF m 129 #[.val (.int p1), .val (.int p2), .val (.int p3), .val (.int l1), .val (.int l2), .val (.int ch), .val (.int nu), .val (.ref n1), .val (.ref n2), .val (.int (ch.toInt8.toInt32)), .val (.ref b19), .val (.ref ab1), .val (.ref ab2), .unset, .unset, .unset] [(.ref ab2)])) _
        refine XS.ifnullNo X79.here hx rfl (hb hby at_129) rfl ?_
        show Steps p.tables e below (T79.setTop (mkF m 132 #[.val (.int p1), .val (.int p2), .val (.int p3), .val (.int l1), .val (.int l2), .val (.int ch), .val (.int nu), .val (.ref n1), .val (.ref n2), .val (.int (ch.toInt8.toInt32)), .val (.ref b19), .val (.ref ab1), .val (.ref ab2), .unset, .unset, .unset] [])) _
        refine XS.aload X79.here hx rfl (hb hby at_132) rfl rfl ?_
        exact k)
    obtain ⟨cl92, Ar92, ln92⟩ := own_A.len V_89
    have pre93 : own_Go p e below (s₁.setTop (entryFrame m #[(.int p1), (.int p2), (.int p3)] maxLocals)) (T79.setTop (mkF m 135 #[.val (.int p1), .val (.int p2), .val (.int p3), .val (.int l1), .val (.int l2), .val (.int ch), .val (.int nu), .val (.ref n1), .val (.ref n2), .val (.int (ch.toInt8.toInt32)), .val (.ref b19), .val (.ref ab1), .val (.ref ab2), .unset, .unset, .unset] [(.int (l2 + (11 : Int32)))])) := fun t k => pre91 t (X79.arraylength hx (by rw [show T79.heap = T79.heap from rfl]; exact Ar92.1) (State.isArrayOf_alike hZ.alike Ar92.2.1) (g := (mkF m 134 #[.val (.int p1), .val (.int p2), .val (.int p3), .val (.int l1), .val (.int l2), .val (.int ch), .val (.int nu), .val (.ref n1), .val (.ref n2), .val (.int (ch.toInt8.toInt32)), .val (.ref b19), .val (.ref ab1), .val (.ref ab2), .unset, .unset, .unset] [(.ref ab2)])) rfl rfl (hb hby at_134) t (by rw [ln92]; exact k))
    have pre94 : own_Go p e below (s₁.setTop (entryFrame m #[(.int p1), (.int p2), (.int p3)] maxLocals)) (T79.setTop (mkF m 147 #[.val (.int p1), .val (.int p2), .val (.int p3), .val (.int l1), .val (.int l2), .val (.int ch), .val (.int nu), .val (.ref n1), .val (.ref n2), .val (.int (ch.toInt8.toInt32)), .val (.ref b19), .val (.ref ab1), .val (.ref ab2), .unset, .unset, .unset] [(.ref ab1)])) := fun t k => pre93 t (by
        show Steps p.tables e below (T79.setTop (mkF m 135 #[.val (.int p1), .val (.int p2), .val (.int p3), .val (.int l1), .val (.int l2), .val (.int ch), .val (.int nu), .val (.ref n1), .val (.ref n2), .val (.int (ch.toInt8.toInt32)), .val (.ref b19), .val (.ref ab1), .val (.ref ab2), .unset, .unset, .unset] [(.int (l2 + (11 : Int32)))])) _
        refine XS.iload X79.here hx rfl (hb hby at_135) rfl ?_
        show Steps p.tables e below (T79.setTop (mkF m 137 #[.val (.int p1), .val (.int p2), .val (.int p3), .val (.int l1), .val (.int l2), .val (.int ch), .val (.int nu), .val (.ref n1), .val (.ref n2), .val (.int (ch.toInt8.toInt32)), .val (.ref b19), .val (.ref ab1), .val (.ref ab2), .unset, .unset, .unset] [(.int l2), (.int (l2 + (11 : Int32)))])) _
        refine XS.bipush X79.here hx rfl (hb hby at_137) ?_
        show Steps p.tables e below (T79.setTop (mkF m 139 #[.val (.int p1), .val (.int p2), .val (.int p3), .val (.int l1), .val (.int l2), .val (.int ch), .val (.int nu), .val (.ref n1), .val (.ref n2), .val (.int (ch.toInt8.toInt32)), .val (.ref b19), .val (.ref ab1), .val (.ref ab2), .unset, .unset, .unset] [(.int (11 : Int32)), (.int l2), (.int (l2 + (11 : Int32)))])) _
        refine XS.iadd X79.here hx rfl (hb hby at_139) rfl ?_
        show Steps p.tables e below (T79.setTop (mkF m 140 #[.val (.int p1), .val (.int p2), .val (.int p3), .val (.int l1), .val (.int l2), .val (.int ch), .val (.int nu), .val (.ref n1), .val (.ref n2), .val (.int (ch.toInt8.toInt32)), .val (.ref b19), .val (.ref ab1), .val (.ref ab2), .unset, .unset, .unset] [(.int (l2 + (11 : Int32))), (.int (l2 + (11 : Int32)))])) _
        refine XS.icmpYes X79.here hx rfl (pc0 := 140) (pc' := 145) rfl (hb hby at_140) rfl (XT.ii_ge_t Int32.lt_irrefl) (by decide) (by decide) ?_
        show Steps p.tables e below (T79.setTop (mkF m 145 #[.val (.int p1), .val (.int p2), .val (.int p3), .val (.int l1), .val (.int l2), .val (.int ch), .val (.int nu), .val (.ref n1), .val (.ref n2), .val (.int (ch.toInt8.toInt32)), .val (.ref b19), .val (.ref ab1), .val (.ref ab2), .unset, .unset, .unset] [])) _
        refine XS.aload X79.here hx rfl (hb hby at_145) rfl rfl ?_
        exact k)
    obtain ⟨cl95, Ar95, ln95⟩ := own_A.len V_88
    have pre96 : own_Go p e below (s₁.setTop (entryFrame m #[(.int p1), (.int p2), (.int p3)] maxLocals)) (T79.setTop (mkF m 148 #[.val (.int p1), .val (.int p2), .val (.int p3), .val (.int l1), .val (.int l2), .val (.int ch), .val (.int nu), .val (.ref n1), .val (.ref n2), .val (.int (ch.toInt8.toInt32)), .val (.ref b19), .val (.ref ab1), .val (.ref ab2), .unset, .unset, .unset] [(.int (l1 + (11 : Int32)))])) := fun t k => pre94 t (X79.arraylength hx (by rw [show T79.heap = T79.heap from rfl]; exact Ar95.1) (State.isArrayOf_alike hZ.alike Ar95.2.1) (g := (mkF m 147 #[.val (.int p1), .val (.int p2), .val (.int p3), .val (.int l1), .val (.int l2), .val (.int ch), .val (.int nu), .val (.ref n1), .val (.ref n2), .val (.int (ch.toInt8.toInt32)), .val (.ref b19), .val (.ref ab1), .val (.ref ab2), .unset, .unset, .unset] [(.ref ab1)])) rfl rfl (hb hby at_147) t (by rw [ln95]; exact k))
    have Zh9 : n0 ≤ T79.heap.size := Nat.le_trans Z0 K_90.1
    have pre97 : own_Go p e below (s₁.setTop (entryFrame m #[(.int p1), (.int p2), (.int p3)] maxLocals)) (T79.setTop (mkF m 171 #[.val (.int p1), .val (.int p2), .val (.int p3), .val (.int l1), .val (.int l2), .val (.int ch), .val (.int nu), .val (.ref n1), .val (.ref n2), .val (.int (ch.toInt8.toInt32)), .val (.ref b19), .val (.ref ab1), .val (.ref ab2), .unset, .unset, .unset] [(.int l2), (.ref n2), (.ref ab2)])) := fun t k => pre96 t (by
        show Steps p.tables e below (T79.setTop (mkF m 148 #[.val (.int p1), .val (.int p2), .val (.int p3), .val (.int l1), .val (.int l2), .val (.int ch), .val (.int nu), .val (.ref n1), .val (.ref n2), .val (.int (ch.toInt8.toInt32)), .val (.ref b19), .val (.ref ab1), .val (.ref ab2), .unset, .unset, .unset] [(.int (l1 + (11 : Int32)))])) _
        refine XS.iload X79.here hx rfl (hb hby at_148) rfl ?_
        show Steps p.tables e below (T79.setTop (mkF m 150 #[.val (.int p1), .val (.int p2), .val (.int p3), .val (.int l1), .val (.int l2), .val (.int ch), .val (.int nu), .val (.ref n1), .val (.ref n2), .val (.int (ch.toInt8.toInt32)), .val (.ref b19), .val (.ref ab1), .val (.ref ab2), .unset, .unset, .unset] [(.int l2), (.int (l1 + (11 : Int32)))])) _
        refine XS.bipush X79.here hx rfl (hb hby at_150) ?_
        show Steps p.tables e below (T79.setTop (mkF m 152 #[.val (.int p1), .val (.int p2), .val (.int p3), .val (.int l1), .val (.int l2), .val (.int ch), .val (.int nu), .val (.ref n1), .val (.ref n2), .val (.int (ch.toInt8.toInt32)), .val (.ref b19), .val (.ref ab1), .val (.ref ab2), .unset, .unset, .unset] [(.int (11 : Int32)), (.int l2), (.int (l1 + (11 : Int32)))])) _
        refine XS.iadd X79.here hx rfl (hb hby at_152) rfl ?_
        show Steps p.tables e below (T79.setTop (mkF m 153 #[.val (.int p1), .val (.int p2), .val (.int p3), .val (.int l1), .val (.int l2), .val (.int ch), .val (.int nu), .val (.ref n1), .val (.ref n2), .val (.int (ch.toInt8.toInt32)), .val (.ref b19), .val (.ref ab1), .val (.ref ab2), .unset, .unset, .unset] [(.int (l2 + (11 : Int32))), (.int (l1 + (11 : Int32)))])) _
        refine XS.icmpYes X79.here hx rfl (pc0 := 153) (pc' := 165) rfl (hb hby at_153) rfl (XT.ii_lt_t hc) (by decide) (by decide) ?_
        show Steps p.tables e below (T79.setTop (mkF m 165 #[.val (.int p1), .val (.int p2), .val (.int p3), .val (.int l1), .val (.int l2), .val (.int ch), .val (.int nu), .val (.ref n1), .val (.ref n2), .val (.int (ch.toInt8.toInt32)), .val (.ref b19), .val (.ref ab1), .val (.ref ab2), .unset, .unset, .unset] [])) _
        refine XS.aload X79.here hx rfl (hb hby at_165) rfl rfl ?_
        show Steps p.tables e below (T79.setTop (mkF m 167 #[.val (.int p1), .val (.int p2), .val (.int p3), .val (.int l1), .val (.int l2), .val (.int ch), .val (.int nu), .val (.ref n1), .val (.ref n2), .val (.int (ch.toInt8.toInt32)), .val (.ref b19), .val (.ref ab1), .val (.ref ab2), .unset, .unset, .unset] [(.ref ab2)])) _
        refine XS.aload X79.here hx rfl (hb hby at_167) rfl rfl ?_
        show Steps p.tables e below (T79.setTop (mkF m 169 #[.val (.int p1), .val (.int p2), .val (.int p3), .val (.int l1), .val (.int l2), .val (.int ch), .val (.int nu), .val (.ref n1), .val (.ref n2), .val (.int (ch.toInt8.toInt32)), .val (.ref b19), .val (.ref ab1), .val (.ref ab2), .unset, .unset, .unset] [(.ref n2), (.ref ab2)])) _
        refine XS.iload X79.here hx rfl (hb hby at_169) rfl ?_
        exact k)
    obtain ⟨_, _, ⟨T98, L98, k98, n98⟩, -, X98, ⟨Lc98, hQ98, l98, y98, z98⟩, st98⟩ := Jvm.LawKit.callS X79 hx (y := (⟨"com/example/gyre/gyre/NodeLabelStartNodePinLaw", "prefix", "([B[BI)Z"⟩ : MethodName)) hown (mvT hZ (hw _ (List.mem_of_getElem? (i := 34) rfl))) (mvT hZ (hw _ (List.mem_of_getElem? (i := 35) rfl))) (mvT hZ (hw _ (List.mem_of_getElem? (i := 2) rfl))) (mvT hZ (hw _ (List.mem_of_getElem? (i := 36) rfl))) (by decide) (backOf (W := 0) (rm5 l Z a0 hw [] ab2 n2 l2 (l2 + (11 : Int32)) _ _ T79.heap n0 Zh9 V_89 V_86 (by omega) (fun i hi => (own_upd_miss _ _ (Nat.ne_of_lt hi)).trans (own_mix2_lo hi))) hZ (hw _ (List.mem_of_getElem? (i := 36) rfl)) (hw _ (List.mem_of_getElem? (i := 2) rfl)) (by decide) (by decide)) (g := (mkF m 171 #[.val (.int p1), .val (.int p2), .val (.int p3), .val (.int l1), .val (.int l2), .val (.int ch), .val (.int nu), .val (.ref n1), .val (.ref n2), .val (.int (ch.toInt8.toInt32)), .val (.ref b19), .val (.ref ab1), .val (.ref ab2), .unset, .unset, .unset] [(.int l2), (.ref n2), (.ref ab2)])) rfl (by rw [hml]; rfl) (argsL := [(.ref ab2), (.ref n2), (.int l2)]) (rest := []) (lenOf pd_0_4 rfl) rfl (by show 2 * 0 + _ ≤ _; exact Nat.le_of_eq rfl) (hb hby at_171) (fun _ _ => ⟨rfl, rfl, (by decide : 6 + 0 ≤ _), (by decide : 37 + 0 ≤ _)⟩)
    dsimp only [Pt.U, Pt.locs, Pt.cells, Pt.slots] at X98 l98 y98 z98 st98 hQ98
    subst l98 y98 z98
    obtain ⟨rfl, N98q, hh98⟩ := hQ98
    have N98 := Fr.app N79 N98q
    have pre99 : own_Go p e below (s₁.setTop (entryFrame m #[(.int p1), (.int p2), (.int p3)] maxLocals)) (T98.setTop (mkF m 174 #[.val (.int p1), .val (.int p2), .val (.int p3), .val (.int l1), .val (.int l2), .val (.int ch), .val (.int nu), .val (.ref n1), .val (.ref n2), .val (.int (ch.toInt8.toInt32)), .val (.ref b19), .val (.ref ab1), .val (.ref ab2), .unset, .unset, .unset] [(.int (1 : Int32))])) := fun t k => pre97 t (st98 t k)
    have F_100 := F_81
    rw [← hh98] at F_100
    have F_101 := F_82
    rw [← hh98] at F_101
    have F_102 := F_83
    rw [← hh98] at F_102
    have Ex_103 := Ex_84
    rw [← hh98] at Ex_103
    have V_104 := V_85
    rw [← hh98] at V_104
    have V_105 := V_86
    rw [← hh98] at V_105
    have V_106 := V_87
    rw [← hh98] at V_106
    have V_107 := V_88
    rw [← hh98] at V_107
    have V_108 := V_89
    rw [← hh98] at V_108
    have K_109 := K_90
    rw [← hh98] at K_109
    have pre110 : own_Go p e below (s₁.setTop (entryFrame m #[(.int p1), (.int p2), (.int p3)] maxLocals)) (T98.setTop (mkF m 181 #[.val (.int p1), .val (.int p2), .val (.int p3), .val (.int l1), .val (.int l2), .val (.int ch), .val (.int nu), .val (.ref n1), .val (.ref n2), .val (.int (ch.toInt8.toInt32)), .val (.ref b19), .val (.ref ab1), .val (.ref ab2), .unset, .unset, .unset] [(.int l2), (.ref ab2)])) := fun t k => pre99 t (by
        show Steps p.tables e below (T98.setTop (mkF m 174 #[.val (.int p1), .val (.int p2), .val (.int p3), .val (.int l1), .val (.int l2), .val (.int ch), .val (.int nu), .val (.ref n1), .val (.ref n2), .val (.int (ch.toInt8.toInt32)), .val (.ref b19), .val (.ref ab1), .val (.ref ab2), .unset, .unset, .unset] [(.int (1 : Int32))])) _
        refine XS.ifNo X98.here hx rfl (hb hby at_174) rfl (XT.i0_eq_f (by decide)) ?_
        show Steps p.tables e below (T98.setTop (mkF m 177 #[.val (.int p1), .val (.int p2), .val (.int p3), .val (.int l1), .val (.int l2), .val (.int ch), .val (.int nu), .val (.ref n1), .val (.ref n2), .val (.int (ch.toInt8.toInt32)), .val (.ref b19), .val (.ref ab1), .val (.ref ab2), .unset, .unset, .unset] [])) _
        refine XS.aload X98.here hx rfl (hb hby at_177) rfl rfl ?_
        show Steps p.tables e below (T98.setTop (mkF m 179 #[.val (.int p1), .val (.int p2), .val (.int p3), .val (.int l1), .val (.int l2), .val (.int ch), .val (.int nu), .val (.ref n1), .val (.ref n2), .val (.int (ch.toInt8.toInt32)), .val (.ref b19), .val (.ref ab1), .val (.ref ab2), .unset, .unset, .unset] [(.ref ab2)])) _
        refine XS.iload X98.here hx rfl (hb hby at_179) rfl ?_
        exact k)
    obtain ⟨cl111, Ar111, hin111, hv111⟩ := own_A.at V_108 (j := l2) l2_0 (own_lt (by omega))
    have pre112 : own_Go p e below (s₁.setTop (entryFrame m #[(.int p1), (.int p2), (.int p3)] maxLocals)) (T98.setTop (mkF m 182 #[.val (.int p1), .val (.int p2), .val (.int p3), .val (.int l1), .val (.int l2), .val (.int ch), .val (.int nu), .val (.ref n1), .val (.ref n2), .val (.int (ch.toInt8.toInt32)), .val (.ref b19), .val (.ref ab1), .val (.ref ab2), .unset, .unset, .unset] [(.int (ch.toInt8.toInt32))])) := fun t k => pre110 t (X98.baloadBytes hx (j := l2) (v := .int (ch.toInt8.toInt32)) (by rw [show T98.heap = T98.heap from rfl]; exact Ar111.1) (State.isArrayOf_alike hZ.alike Ar111.2.1) Ar111.2.2 hin111 (hv111.trans (congrArg (fun z => some (Value.int z)) (own_upd_hit _ _ rfl))) (g := (mkF m 181 #[.val (.int p1), .val (.int p2), .val (.int p3), .val (.int l1), .val (.int l2), .val (.int ch), .val (.int nu), .val (.ref n1), .val (.ref n2), .val (.int (ch.toInt8.toInt32)), .val (.ref b19), .val (.ref ab1), .val (.ref ab2), .unset, .unset, .unset] [(.int l2), (.ref ab2)])) rfl rfl (hb hby at_181) t k)
    have pre113 : own_Go p e below (s₁.setTop (entryFrame m #[(.int p1), (.int p2), (.int p3)] maxLocals)) (T98.setTop (mkF m 217 #[.val (.int p1), .val (.int p2), .val (.int p3), .val (.int l1), .val (.int l2), .val (.int ch), .val (.int nu), .val (.ref n1), .val (.ref n2), .val (.int (ch.toInt8.toInt32)), .val (.ref b19), .val (.ref ab1), .val (.ref ab2), .unset, .unset, .unset] [(.int nu), (.ref b19)])) := fun t k => pre112 t (by
        show Steps p.tables e below (T98.setTop (mkF m 182 #[.val (.int p1), .val (.int p2), .val (.int p3), .val (.int l1), .val (.int l2), .val (.int ch), .val (.int nu), .val (.ref n1), .val (.ref n2), .val (.int (ch.toInt8.toInt32)), .val (.ref b19), .val (.ref ab1), .val (.ref ab2), .unset, .unset, .unset] [(.int (ch.toInt8.toInt32))])) _
        refine XS.iload X98.here hx rfl (hb hby at_182) rfl ?_
        show Steps p.tables e below (T98.setTop (mkF m 184 #[.val (.int p1), .val (.int p2), .val (.int p3), .val (.int l1), .val (.int l2), .val (.int ch), .val (.int nu), .val (.ref n1), .val (.ref n2), .val (.int (ch.toInt8.toInt32)), .val (.ref b19), .val (.ref ab1), .val (.ref ab2), .unset, .unset, .unset] [(.int (ch.toInt8.toInt32)), (.int (ch.toInt8.toInt32))])) _
        refine XS.icmpYes X98.here hx rfl (pc0 := 184) (pc' := 189) rfl (hb hby at_184) rfl (XT.ii_eq_t rfl) (by decide) (by decide) ?_
        show Steps p.tables e below (T98.setTop (mkF m 189 #[.val (.int p1), .val (.int p2), .val (.int p3), .val (.int l1), .val (.int l2), .val (.int ch), .val (.int nu), .val (.ref n1), .val (.ref n2), .val (.int (ch.toInt8.toInt32)), .val (.ref b19), .val (.ref ab1), .val (.ref ab2), .unset, .unset, .unset] [])) _
        refine XS.aload X98.here hx rfl (hb hby at_189) rfl rfl ?_
        show Steps p.tables e below (T98.setTop (mkF m 191 #[.val (.int p1), .val (.int p2), .val (.int p3), .val (.int l1), .val (.int l2), .val (.int ch), .val (.int nu), .val (.ref n1), .val (.ref n2), .val (.int (ch.toInt8.toInt32)), .val (.ref b19), .val (.ref ab1), .val (.ref ab2), .unset, .unset, .unset] [(.ref ab2)])) _
        refine XS.aload X98.here hx rfl (hb hby at_191) rfl rfl ?_
        show Steps p.tables e below (T98.setTop (mkF m 193 #[.val (.int p1), .val (.int p2), .val (.int p3), .val (.int l1), .val (.int l2), .val (.int ch), .val (.int nu), .val (.ref n1), .val (.ref n2), .val (.int (ch.toInt8.toInt32)), .val (.ref b19), .val (.ref ab1), .val (.ref ab2), .unset, .unset, .unset] [(.ref ab1), (.ref ab2)])) _
        refine Jvm.RoadKit.acmp (g := (mkF m 193 #[.val (.int p1), .val (.int p2), .val (.int p3), .val (.int l1), .val (.int l2), .val (.int ch), .val (.int nu), .val (.ref n1), .val (.ref n2), .val (.int (ch.toInt8.toInt32)), .val (.ref b19), .val (.ref ab1), .val (.ref ab2), .unset, .unset, .unset] [(.ref ab1), (.ref ab2)])) X98 hx rfl rfl rfl (pc0 := 193) (pc' := 213) (same := false) rfl (hb hby at_193) rfl (decide_eq_false fun q => (Ne.symm ne_ab1_ab2) (Value.ref.inj q)) (by decide) (by decide) ?_
        show Steps p.tables e below (T98.setTop (mkF m 213 #[.val (.int p1), .val (.int p2), .val (.int p3), .val (.int l1), .val (.int l2), .val (.int ch), .val (.int nu), .val (.ref n1), .val (.ref n2), .val (.int (ch.toInt8.toInt32)), .val (.ref b19), .val (.ref ab1), .val (.ref ab2), .unset, .unset, .unset] [])) _
        refine XS.aload X98.here hx rfl (hb hby at_213) rfl rfl ?_
        show Steps p.tables e below (T98.setTop (mkF m 215 #[.val (.int p1), .val (.int p2), .val (.int p3), .val (.int l1), .val (.int l2), .val (.int ch), .val (.int nu), .val (.ref n1), .val (.ref n2), .val (.int (ch.toInt8.toInt32)), .val (.ref b19), .val (.ref ab1), .val (.ref ab2), .unset, .unset, .unset] [(.ref b19)])) _
        refine XS.iload X98.here hx rfl (hb hby at_215) rfl ?_
        exact k)
    have nbv : (l2 + (1 : Int32)).toInt + 9 ≤ ((l2 + (11 : Int32))).toInt := by omega
    by_cases hn : nu < (10 : Int32)
    · skip
      have hn' := hn
      rw [Int32.lt_iff_toInt_lt] at hn'
      have Zh10 : n0 ≤ T98.heap.size := Nat.le_trans Z0 K_109.1
      obtain ⟨cq114, kq114, q114a, q114b, q114c⟩ := isOf hZ rfl Ex_103
      obtain ⟨_, _, ⟨T114, L114, k114, n114⟩, -, X114, ⟨Lc114, hQ114, l114, y114, z114⟩, st114⟩ := X98.virtualBack hx (y := (⟨"com/example/gyre/gyre/NodeLabel", "withNumber", "(I)I"⟩ : MethodName)) (z := (⟨"com/example/gyre/gyre/NodeLabel", "withNumber", "(I)I"⟩ : MethodName)) hown (mvT hZ (hw _ (List.mem_of_getElem? (i := 37) rfl))) (mvT hZ (hw _ (List.mem_of_getElem? (i := 38) rfl))) (notFace_of_selects (args := #[]) (mvT hZ (hw _ (List.mem_of_getElem? (i := 40) rfl)))) (mvT hZ (hw _ (List.mem_of_getElem? (i := 40) rfl))) (mvT hZ (hw _ (List.mem_of_getElem? (i := 39) rfl))) (by decide) (backOf (W := 0) (rm6 l Z a0 hw [] b19 ab2 nu (l2 + (1 : Int32)) (l2 + (11 : Int32)) _ T98.heap n0 Zh10 F_100 F_102 V_108 g_ab2 ne_b19_ab2 ⟨by omega, by omega⟩ ⟨by omega, by omega⟩ (by omega)) hZ (hw _ (List.mem_of_getElem? (i := 41) rfl)) (hw _ (List.mem_of_getElem? (i := 7) rfl)) (by decide) (by decide)) q114a q114c (g := (mkF m 217 #[.val (.int p1), .val (.int p2), .val (.int p3), .val (.int l1), .val (.int l2), .val (.int ch), .val (.int nu), .val (.ref n1), .val (.ref n2), .val (.int (ch.toInt8.toInt32)), .val (.ref b19), .val (.ref ab1), .val (.ref ab2), .unset, .unset, .unset] [(.int nu), (.ref b19)])) rfl (by rw [hml]; rfl) (Steps.refl _) (argsL := [(.int nu)]) (rest := []) (lenOf pd_0_5 rfl) rfl (by show 2 * 0 + _ ≤ _; exact Nat.le_of_eq rfl) (hb hby at_217) (fun _ _ => ⟨rfl, rfl, (by decide : 6 + 0 ≤ _), (by decide : 37 + 0 ≤ _)⟩)
      dsimp only [Pt.U, Pt.locs, Pt.cells, Pt.slots] at X114 l114 y114 z114 st114 hQ114
      subst l114 y114 z114
      obtain ⟨rfl, N114q, K114, V114⟩ := hQ114
      have N114 := Fr.app N98 N114q
      have pre115 : own_Go p e below (s₁.setTop (entryFrame m #[(.int p1), (.int p2), (.int p3)] maxLocals)) (T114.setTop (mkF m 220 #[.val (.int p1), .val (.int p2), .val (.int p3), .val (.int l1), .val (.int l2), .val (.int ch), .val (.int nu), .val (.ref n1), .val (.ref n2), .val (.int (ch.toInt8.toInt32)), .val (.ref b19), .val (.ref ab1), .val (.ref ab2), .unset, .unset, .unset] [(.int ((l2 + (1 : Int32)) + (1 : Int32)))])) := fun t k => pre113 t (st114.trans k)
      have F_116 := F_100.keep K114 (ninS ne_b19_ab2 nin0)
      have F_117 := F_101.keep K114 (ninS ne_b19_ab2 nin0)
      have F_118 := F_102.keep K114 (ninS ne_b19_ab2 nin0)
      have Ex_119 := Ex_103.keep K114
      have V_120 := V_104.keep K114 (ninS ne_n1_ab2 nin0)
      have V_121 := V_105.keep K114 (ninS ne_n2_ab2 nin0)
      have V_122 := V_106.keep K114 (ninS ne_ab0_ab2 nin0)
      have V_123 := V_107.keep K114 (ninS ne_ab1_ab2 nin0)
      have K_124 := K_109.trans K114 (allS (Or.inr sz_ab2) all0)
      have Zh11 : n0 ≤ T114.heap.size := Nat.le_trans Z0 K_124.1
      have pre125 : own_Go p e below (s₁.setTop (entryFrame m #[(.int p1), (.int p2), (.int p3)] maxLocals)) (T114.setTop (mkF m 252 #[.val (.int p1), .val (.int p2), .val (.int p3), .val (.int l1), .val (.int l2), .val (.int ch), .val (.int nu), .val (.ref n1), .val (.ref n2), .val (.int (ch.toInt8.toInt32)), .val (.ref b19), .val (.ref ab1), .val (.ref ab2), .val (.int ((l2 + (1 : Int32)) + (1 : Int32))), .val (.int (1 : Int32)), .unset] [(.ref b19)])) := fun t k => pre115 t (by
          show Steps p.tables e below (T114.setTop (mkF m 220 #[.val (.int p1), .val (.int p2), .val (.int p3), .val (.int l1), .val (.int l2), .val (.int ch), .val (.int nu), .val (.ref n1), .val (.ref n2), .val (.int (ch.toInt8.toInt32)), .val (.ref b19), .val (.ref ab1), .val (.ref ab2), .unset, .unset, .unset] [(.int ((l2 + (1 : Int32)) + (1 : Int32)))])) _
          refine XS.istore X114.here hx rfl (hb hby at_220) rfl (l' := #[.val (.int p1), .val (.int p2), .val (.int p3), .val (.int l1), .val (.int l2), .val (.int ch), .val (.int nu), .val (.ref n1), .val (.ref n2), .val (.int (ch.toInt8.toInt32)), .val (.ref b19), .val (.ref ab1), .val (.ref ab2), .val (.int ((l2 + (1 : Int32)) + (1 : Int32))), .unset, .unset]) rfl ?_
          show Steps p.tables e below (T114.setTop (mkF m 222 #[.val (.int p1), .val (.int p2), .val (.int p3), .val (.int l1), .val (.int l2), .val (.int ch), .val (.int nu), .val (.ref n1), .val (.ref n2), .val (.int (ch.toInt8.toInt32)), .val (.ref b19), .val (.ref ab1), .val (.ref ab2), .val (.int ((l2 + (1 : Int32)) + (1 : Int32))), .unset, .unset] [])) _
          refine XS.iload X114.here hx rfl (hb hby at_222) rfl ?_
          show Steps p.tables e below (T114.setTop (mkF m 224 #[.val (.int p1), .val (.int p2), .val (.int p3), .val (.int l1), .val (.int l2), .val (.int ch), .val (.int nu), .val (.ref n1), .val (.ref n2), .val (.int (ch.toInt8.toInt32)), .val (.ref b19), .val (.ref ab1), .val (.ref ab2), .val (.int ((l2 + (1 : Int32)) + (1 : Int32))), .unset, .unset] [(.int nu)])) _
          refine XS.bipush X114.here hx rfl (hb hby at_224) ?_
          show Steps p.tables e below (T114.setTop (mkF m 226 #[.val (.int p1), .val (.int p2), .val (.int p3), .val (.int l1), .val (.int l2), .val (.int ch), .val (.int nu), .val (.ref n1), .val (.ref n2), .val (.int (ch.toInt8.toInt32)), .val (.ref b19), .val (.ref ab1), .val (.ref ab2), .val (.int ((l2 + (1 : Int32)) + (1 : Int32))), .unset, .unset] [(.int (10 : Int32)), (.int nu)])) _
          refine XS.icmpNo X114.here hx rfl (hb hby at_226) rfl (XT.ii_ge_f hn) ?_
          show Steps p.tables e below (T114.setTop (mkF m 229 #[.val (.int p1), .val (.int p2), .val (.int p3), .val (.int l1), .val (.int l2), .val (.int ch), .val (.int nu), .val (.ref n1), .val (.ref n2), .val (.int (ch.toInt8.toInt32)), .val (.ref b19), .val (.ref ab1), .val (.ref ab2), .val (.int ((l2 + (1 : Int32)) + (1 : Int32))), .unset, .unset] [])) _
          refine XS.iconst X114.here hx rfl (hb hby at_229) ?_
          show Steps p.tables e below (T114.setTop (mkF m 230 #[.val (.int p1), .val (.int p2), .val (.int p3), .val (.int l1), .val (.int l2), .val (.int ch), .val (.int nu), .val (.ref n1), .val (.ref n2), .val (.int (ch.toInt8.toInt32)), .val (.ref b19), .val (.ref ab1), .val (.ref ab2), .val (.int ((l2 + (1 : Int32)) + (1 : Int32))), .unset, .unset] [(.int (1 : Int32))])) _
          refine XS.goto X114.here hx rfl (pc0 := 230) (pc' := 234) rfl (hb hby at_230) (by decide) (by decide) ?_
          show Steps p.tables e below (T114.setTop (mkF m 234 #[.val (.int p1), .val (.int p2), .val (.int p3), .val (.int l1), .val (.int l2), .val (.int ch), .val (.int nu), .val (.ref n1), .val (.ref n2), .val (.int (ch.toInt8.toInt32)), .val (.ref b19), .val (.ref ab1), .val (.ref ab2), .val (.int ((l2 + (1 : Int32)) + (1 : Int32))), .unset, .unset] [(.int (1 : Int32))])) _
          refine XS.istore X114.here hx rfl (hb hby at_234) rfl (l' := #[.val (.int p1), .val (.int p2), .val (.int p3), .val (.int l1), .val (.int l2), .val (.int ch), .val (.int nu), .val (.ref n1), .val (.ref n2), .val (.int (ch.toInt8.toInt32)), .val (.ref b19), .val (.ref ab1), .val (.ref ab2), .val (.int ((l2 + (1 : Int32)) + (1 : Int32))), .val (.int (1 : Int32)), .unset]) rfl ?_
          show Steps p.tables e below (T114.setTop (mkF m 236 #[.val (.int p1), .val (.int p2), .val (.int p3), .val (.int l1), .val (.int l2), .val (.int ch), .val (.int nu), .val (.ref n1), .val (.ref n2), .val (.int (ch.toInt8.toInt32)), .val (.ref b19), .val (.ref ab1), .val (.ref ab2), .val (.int ((l2 + (1 : Int32)) + (1 : Int32))), .val (.int (1 : Int32)), .unset] [])) _
          refine XS.iload X114.here hx rfl (hb hby at_236) rfl ?_
          show Steps p.tables e below (T114.setTop (mkF m 238 #[.val (.int p1), .val (.int p2), .val (.int p3), .val (.int l1), .val (.int l2), .val (.int ch), .val (.int nu), .val (.ref n1), .val (.ref n2), .val (.int (ch.toInt8.toInt32)), .val (.ref b19), .val (.ref ab1), .val (.ref ab2), .val (.int ((l2 + (1 : Int32)) + (1 : Int32))), .val (.int (1 : Int32)), .unset] [(.int ((l2 + (1 : Int32)) + (1 : Int32)))])) _
          refine XS.iload X114.here hx rfl (hb hby at_238) rfl ?_
          show Steps p.tables e below (T114.setTop (mkF m 240 #[.val (.int p1), .val (.int p2), .val (.int p3), .val (.int l1), .val (.int l2), .val (.int ch), .val (.int nu), .val (.ref n1), .val (.ref n2), .val (.int (ch.toInt8.toInt32)), .val (.ref b19), .val (.ref ab1), .val (.ref ab2), .val (.int ((l2 + (1 : Int32)) + (1 : Int32))), .val (.int (1 : Int32)), .unset] [(.int l2), (.int ((l2 + (1 : Int32)) + (1 : Int32)))])) _
          refine XS.iconst X114.here hx rfl (hb hby at_240) ?_
          show Steps p.tables e below (T114.setTop (mkF m 241 #[.val (.int p1), .val (.int p2), .val (.int p3), .val (.int l1), .val (.int l2), .val (.int ch), .val (.int nu), .val (.ref n1), .val (.ref n2), .val (.int (ch.toInt8.toInt32)), .val (.ref b19), .val (.ref ab1), .val (.ref ab2), .val (.int ((l2 + (1 : Int32)) + (1 : Int32))), .val (.int (1 : Int32)), .unset] [(.int (1 : Int32)), (.int l2), (.int ((l2 + (1 : Int32)) + (1 : Int32)))])) _
          refine XS.iadd X114.here hx rfl (hb hby at_241) rfl ?_
          show Steps p.tables e below (T114.setTop (mkF m 242 #[.val (.int p1), .val (.int p2), .val (.int p3), .val (.int l1), .val (.int l2), .val (.int ch), .val (.int nu), .val (.ref n1), .val (.ref n2), .val (.int (ch.toInt8.toInt32)), .val (.ref b19), .val (.ref ab1), .val (.ref ab2), .val (.int ((l2 + (1 : Int32)) + (1 : Int32))), .val (.int (1 : Int32)), .unset] [(.int (l2 + (1 : Int32))), (.int ((l2 + (1 : Int32)) + (1 : Int32)))])) _
          refine XS.iload X114.here hx rfl (hb hby at_242) rfl ?_
          show Steps p.tables e below (T114.setTop (mkF m 244 #[.val (.int p1), .val (.int p2), .val (.int p3), .val (.int l1), .val (.int l2), .val (.int ch), .val (.int nu), .val (.ref n1), .val (.ref n2), .val (.int (ch.toInt8.toInt32)), .val (.ref b19), .val (.ref ab1), .val (.ref ab2), .val (.int ((l2 + (1 : Int32)) + (1 : Int32))), .val (.int (1 : Int32)), .unset] [(.int (1 : Int32)), (.int (l2 + (1 : Int32))), (.int ((l2 + (1 : Int32)) + (1 : Int32)))])) _
          refine XS.iadd X114.here hx rfl (hb hby at_244) rfl ?_
          show Steps p.tables e below (T114.setTop (mkF m 245 #[.val (.int p1), .val (.int p2), .val (.int p3), .val (.int l1), .val (.int l2), .val (.int ch), .val (.int nu), .val (.ref n1), .val (.ref n2), .val (.int (ch.toInt8.toInt32)), .val (.ref b19), .val (.ref ab1), .val (.ref ab2), .val (.int ((l2 + (1 : Int32)) + (1 : Int32))), .val (.int (1 : Int32)), .unset] [(.int ((l2 + (1 : Int32)) + (1 : Int32))), (.int ((l2 + (1 : Int32)) + (1 : Int32)))])) _
          refine XS.icmpYes X114.here hx rfl (pc0 := 245) (pc' := 250) rfl (hb hby at_245) rfl (XT.ii_eq_t rfl) (by decide) (by decide) ?_
          show Steps p.tables e below (T114.setTop (mkF m 250 #[.val (.int p1), .val (.int p2), .val (.int p3), .val (.int l1), .val (.int l2), .val (.int ch), .val (.int nu), .val (.ref n1), .val (.ref n2), .val (.int (ch.toInt8.toInt32)), .val (.ref b19), .val (.ref ab1), .val (.ref ab2), .val (.int ((l2 + (1 : Int32)) + (1 : Int32))), .val (.int (1 : Int32)), .unset] [])) _
          refine XS.aload X114.here hx rfl (hb hby at_250) rfl rfl ?_
          exact k)
      obtain ⟨cq126, kq126, q126a, q126b, q126c⟩ := isOf hZ rfl Ex_119
      obtain ⟨_, _, ⟨T126, L126, k126, n126⟩, -, X126, ⟨Lc126, hQ126, l126, y126, z126⟩, st126⟩ := X114.virtualBack hx (y := (⟨"com/example/gyre/gyre/NodeLabel", "bytes", "()[B"⟩ : MethodName)) (z := (⟨"com/example/gyre/gyre/NodeLabel", "bytes", "()[B"⟩ : MethodName)) hown (mvT hZ (hw _ (List.mem_of_getElem? (i := 29) rfl))) (mvT hZ (hw _ (List.mem_of_getElem? (i := 30) rfl))) (notFace_of_selects (args := #[]) (mvT hZ (hw _ (List.mem_of_getElem? (i := 32) rfl)))) (mvT hZ (hw _ (List.mem_of_getElem? (i := 32) rfl))) (mvT hZ (hw _ (List.mem_of_getElem? (i := 31) rfl))) (by decide) (backOf (W := 0) (rm4 l Z a0 hw [] b19 ab2 T114.heap n0 Zh11 F_116) hZ (hw _ (List.mem_of_getElem? (i := 33) rfl)) (hw _ (List.mem_of_getElem? (i := 7) rfl)) (by decide) (by decide)) q126a q126c (g := (mkF m 252 #[.val (.int p1), .val (.int p2), .val (.int p3), .val (.int l1), .val (.int l2), .val (.int ch), .val (.int nu), .val (.ref n1), .val (.ref n2), .val (.int (ch.toInt8.toInt32)), .val (.ref b19), .val (.ref ab1), .val (.ref ab2), .val (.int ((l2 + (1 : Int32)) + (1 : Int32))), .val (.int (1 : Int32)), .unset] [(.ref b19)])) rfl (by rw [hml]; rfl) (Steps.refl _) (argsL := []) (rest := []) (lenOf pd_0_3 rfl) rfl (by show 2 * 0 + _ ≤ _; exact Nat.le_of_eq rfl) (hb hby at_252) (fun _ _ => ⟨rfl, rfl, (by decide : 6 + 0 ≤ _), (by decide : 37 + 0 ≤ _)⟩)
      dsimp only [Pt.U, Pt.locs, Pt.cells, Pt.slots] at X126 l126 y126 z126 st126 hQ126
      subst l126 y126 z126
      obtain ⟨rfl, N126q, hh126⟩ := hQ126
      have N126 := Fr.app N114 N126q
      have pre127 : own_Go p e below (s₁.setTop (entryFrame m #[(.int p1), (.int p2), (.int p3)] maxLocals)) (T126.setTop (mkF m 255 #[.val (.int p1), .val (.int p2), .val (.int p3), .val (.int l1), .val (.int l2), .val (.int ch), .val (.int nu), .val (.ref n1), .val (.ref n2), .val (.int (ch.toInt8.toInt32)), .val (.ref b19), .val (.ref ab1), .val (.ref ab2), .val (.int ((l2 + (1 : Int32)) + (1 : Int32))), .val (.int (1 : Int32)), .unset] [(.ref ab2)])) := fun t k => pre125 t (st126.trans k)
      have F_128 := F_116
      rw [← hh126] at F_128
      have F_129 := F_117
      rw [← hh126] at F_129
      have F_130 := F_118
      rw [← hh126] at F_130
      have Ex_131 := Ex_119
      rw [← hh126] at Ex_131
      have V_132 := V_120
      rw [← hh126] at V_132
      have V_133 := V_121
      rw [← hh126] at V_133
      have V_134 := V_122
      rw [← hh126] at V_134
      have V_135 := V_123
      rw [← hh126] at V_135
      have V_136 := V114
      rw [← hh126] at V_136
      have K_137 := K_124
      rw [← hh126] at K_137
      have pre138 : own_Go p e below (s₁.setTop (entryFrame m #[(.int p1), (.int p2), (.int p3)] maxLocals)) (T126.setTop (mkF m 279 #[.val (.int p1), .val (.int p2), .val (.int p3), .val (.int l1), .val (.int l2), .val (.int ch), .val (.int nu), .val (.ref n1), .val (.ref n2), .val (.int (ch.toInt8.toInt32)), .val (.ref b19), .val (.ref ab1), .val (.ref ab2), .val (.int ((l2 + (1 : Int32)) + (1 : Int32))), .val (.int (1 : Int32)), .val (.ref ab2)] [(.int (l2 + (1 : Int32))), (.ref ab2)])) := fun t k => pre127 t (by
          show Steps p.tables e below (T126.setTop (mkF m 255 #[.val (.int p1), .val (.int p2), .val (.int p3), .val (.int l1), .val (.int l2), .val (.int ch), .val (.int nu), .val (.ref n1), .val (.ref n2), .val (.int (ch.toInt8.toInt32)), .val (.ref b19), .val (.ref ab1), .val (.ref ab2), .val (.int ((l2 + (1 : Int32)) + (1 : Int32))), .val (.int (1 : Int32)), .unset] [(.ref ab2)])) _
          refine XS.astore X126.here hx rfl (hb hby at_255) rfl rfl (l' := #[.val (.int p1), .val (.int p2), .val (.int p3), .val (.int l1), .val (.int l2), .val (.int ch), .val (.int nu), .val (.ref n1), .val (.ref n2), .val (.int (ch.toInt8.toInt32)), .val (.ref b19), .val (.ref ab1), .val (.ref ab2), .val (.int ((l2 + (1 : Int32)) + (1 : Int32))), .val (.int (1 : Int32)), .val (.ref ab2)]) rfl ?_
          show Steps p.tables e below (T126.setTop (mkF m 257 #[.val (.int p1), .val (.int p2), .val (.int p3), .val (.int l1), .val (.int l2), .val (.int ch), .val (.int nu), .val (.ref n1), .val (.ref n2), .val (.int (ch.toInt8.toInt32)), .val (.ref b19), .val (.ref ab1), .val (.ref ab2), .val (.int ((l2 + (1 : Int32)) + (1 : Int32))), .val (.int (1 : Int32)), .val (.ref ab2)] [])) _
          refine XS.aload X126.here hx rfl (hb hby at_257) rfl rfl ?_
          show Steps p.tables e below (T126.setTop (mkF m 259 #[.val (.int p1), .val (.int p2), .val (.int p3), .val (.int l1), .val (.int l2), .val (.int ch), .val (.int nu), .val (.ref n1), .val (.ref n2), .val (.int (ch.toInt8.toInt32)), .val (.ref b19), .val (.ref ab1), .val (.ref ab2), .val (.int ((l2 + (1 : Int32)) + (1 : Int32))), .val (.int (1 : Int32)), .val (.ref ab2)] [(.ref ab2)])) _
          refine XS.aload X126.here hx rfl (hb hby at_259) rfl rfl ?_
          show Steps p.tables e below (T126.setTop (mkF m 261 #[.val (.int p1), .val (.int p2), .val (.int p3), .val (.int l1), .val (.int l2), .val (.int ch), .val (.int nu), .val (.ref n1), .val (.ref n2), .val (.int (ch.toInt8.toInt32)), .val (.ref b19), .val (.ref ab1), .val (.ref ab2), .val (.int ((l2 + (1 : Int32)) + (1 : Int32))), .val (.int (1 : Int32)), .val (.ref ab2)] [(.ref ab2), (.ref ab2)])) _
          refine Jvm.RoadKit.acmp (g := (mkF m 261 #[.val (.int p1), .val (.int p2), .val (.int p3), .val (.int l1), .val (.int l2), .val (.int ch), .val (.int nu), .val (.ref n1), .val (.ref n2), .val (.int (ch.toInt8.toInt32)), .val (.ref b19), .val (.ref ab1), .val (.ref ab2), .val (.int ((l2 + (1 : Int32)) + (1 : Int32))), .val (.int (1 : Int32)), .val (.ref ab2)] [(.ref ab2), (.ref ab2)])) X126 hx rfl rfl rfl (pc0 := 261) (pc' := 266) (same := true) rfl (hb hby at_261) rfl (decide_eq_true rfl) (by decide) (by decide) ?_
          show Steps p.tables e below (T126.setTop (mkF m 266 #[.val (.int p1), .val (.int p2), .val (.int p3), .val (.int l1), .val (.int l2), .val (.int ch), .val (.int nu), .val (.ref n1), .val (.ref n2), .val (.int (ch.toInt8.toInt32)), .val (.ref b19), .val (.ref ab1), .val (.ref ab2), .val (.int ((l2 + (1 : Int32)) + (1 : Int32))), .val (.int (1 : Int32)), .val (.ref ab2)] [])) _
          refine XS.iload X126.here hx rfl (hb hby at_266) rfl ?_
          show Steps p.tables e below (T126.setTop (mkF m 268 #[.val (.int p1), .val (.int p2), .val (.int p3), .val (.int l1), .val (.int l2), .val (.int ch), .val (.int nu), .val (.ref n1), .val (.ref n2), .val (.int (ch.toInt8.toInt32)), .val (.ref b19), .val (.ref ab1), .val (.ref ab2), .val (.int ((l2 + (1 : Int32)) + (1 : Int32))), .val (.int (1 : Int32)), .val (.ref ab2)] [(.int nu)])) _
          refine XS.bipush X126.here hx rfl (hb hby at_268) ?_
          show Steps p.tables e below (T126.setTop (mkF m 270 #[.val (.int p1), .val (.int p2), .val (.int p3), .val (.int l1), .val (.int l2), .val (.int ch), .val (.int nu), .val (.ref n1), .val (.ref n2), .val (.int (ch.toInt8.toInt32)), .val (.ref b19), .val (.ref ab1), .val (.ref ab2), .val (.int ((l2 + (1 : Int32)) + (1 : Int32))), .val (.int (1 : Int32)), .val (.ref ab2)] [(.int (10 : Int32)), (.int nu)])) _
          refine XS.icmpNo X126.here hx rfl (hb hby at_270) rfl (XT.ii_ge_f hn) ?_
          show Steps p.tables e below (T126.setTop (mkF m 273 #[.val (.int p1), .val (.int p2), .val (.int p3), .val (.int l1), .val (.int l2), .val (.int ch), .val (.int nu), .val (.ref n1), .val (.ref n2), .val (.int (ch.toInt8.toInt32)), .val (.ref b19), .val (.ref ab1), .val (.ref ab2), .val (.int ((l2 + (1 : Int32)) + (1 : Int32))), .val (.int (1 : Int32)), .val (.ref ab2)] [])) _
          refine XS.aload X126.here hx rfl (hb hby at_273) rfl rfl ?_
          show Steps p.tables e below (T126.setTop (mkF m 275 #[.val (.int p1), .val (.int p2), .val (.int p3), .val (.int l1), .val (.int l2), .val (.int ch), .val (.int nu), .val (.ref n1), .val (.ref n2), .val (.int (ch.toInt8.toInt32)), .val (.ref b19), .val (.ref ab1), .val (.ref ab2), .val (.int ((l2 + (1 : Int32)) + (1 : Int32))), .val (.int (1 : Int32)), .val (.ref ab2)] [(.ref ab2)])) _
          refine XS.iload X126.here hx rfl (hb hby at_275) rfl ?_
          show Steps p.tables e below (T126.setTop (mkF m 277 #[.val (.int p1), .val (.int p2), .val (.int p3), .val (.int l1), .val (.int l2), .val (.int ch), .val (.int nu), .val (.ref n1), .val (.ref n2), .val (.int (ch.toInt8.toInt32)), .val (.ref b19), .val (.ref ab1), .val (.ref ab2), .val (.int ((l2 + (1 : Int32)) + (1 : Int32))), .val (.int (1 : Int32)), .val (.ref ab2)] [(.int l2), (.ref ab2)])) _
          refine XS.iconst X126.here hx rfl (hb hby at_277) ?_
          show Steps p.tables e below (T126.setTop (mkF m 278 #[.val (.int p1), .val (.int p2), .val (.int p3), .val (.int l1), .val (.int l2), .val (.int ch), .val (.int nu), .val (.ref n1), .val (.ref n2), .val (.int (ch.toInt8.toInt32)), .val (.ref b19), .val (.ref ab1), .val (.ref ab2), .val (.int ((l2 + (1 : Int32)) + (1 : Int32))), .val (.int (1 : Int32)), .val (.ref ab2)] [(.int (1 : Int32)), (.int l2), (.ref ab2)])) _
          refine XS.iadd X126.here hx rfl (hb hby at_278) rfl ?_
          exact k)
      obtain ⟨cl139, Ar139, hin139, hv139⟩ := own_A.at V_136 (j := (l2 + (1 : Int32))) (own_n0 (by omega)) (own_lt (by omega))
      have pre140 : own_Go p e below (s₁.setTop (entryFrame m #[(.int p1), (.int p2), (.int p3)] maxLocals)) (T126.setTop (mkF m 280 #[.val (.int p1), .val (.int p2), .val (.int p3), .val (.int l1), .val (.int l2), .val (.int ch), .val (.int nu), .val (.ref n1), .val (.ref n2), .val (.int (ch.toInt8.toInt32)), .val (.ref b19), .val (.ref ab1), .val (.ref ab2), .val (.int ((l2 + (1 : Int32)) + (1 : Int32))), .val (.int (1 : Int32)), .val (.ref ab2)] [(.int (((48 : Int32) + nu).toInt8.toInt32))])) := fun t k => pre138 t (X126.baloadBytes hx (j := (l2 + (1 : Int32))) (v := .int (((48 : Int32) + nu).toInt8.toInt32)) (by rw [show T126.heap = T126.heap from rfl]; exact Ar139.1) (State.isArrayOf_alike hZ.alike Ar139.2.1) Ar139.2.2 hin139 (hv139.trans (congrArg (fun z => some (Value.int z)) ((own_upd_hit _ _ rfl).trans (own_dig1 hnu.1 (by omega))))) (g := (mkF m 279 #[.val (.int p1), .val (.int p2), .val (.int p3), .val (.int l1), .val (.int l2), .val (.int ch), .val (.int nu), .val (.ref n1), .val (.ref n2), .val (.int (ch.toInt8.toInt32)), .val (.ref b19), .val (.ref ab1), .val (.ref ab2), .val (.int ((l2 + (1 : Int32)) + (1 : Int32))), .val (.int (1 : Int32)), .val (.ref ab2)] [(.int (l2 + (1 : Int32))), (.ref ab2)])) rfl rfl (hb hby at_279) t k)
      have pre141 : own_Go p e below (s₁.setTop (entryFrame m #[(.int p1), (.int p2), (.int p3)] maxLocals)) (T126.setTop (mkF m 294 #[.val (.int p1), .val (.int p2), .val (.int p3), .val (.int l1), .val (.int l2), .val (.int ch), .val (.int nu), .val (.ref n1), .val (.ref n2), .val (.int (ch.toInt8.toInt32)), .val (.ref b19), .val (.ref ab1), .val (.ref ab2), .val (.int ((l2 + (1 : Int32)) + (1 : Int32))), .val (.int (1 : Int32)), .val (.ref ab2)] [(.int (1 : Int32))])) := fun t k => pre140 t (by
          show Steps p.tables e below (T126.setTop (mkF m 280 #[.val (.int p1), .val (.int p2), .val (.int p3), .val (.int l1), .val (.int l2), .val (.int ch), .val (.int nu), .val (.ref n1), .val (.ref n2), .val (.int (ch.toInt8.toInt32)), .val (.ref b19), .val (.ref ab1), .val (.ref ab2), .val (.int ((l2 + (1 : Int32)) + (1 : Int32))), .val (.int (1 : Int32)), .val (.ref ab2)] [(.int (((48 : Int32) + nu).toInt8.toInt32))])) _
          refine XS.bipush X126.here hx rfl (hb hby at_280) ?_
          show Steps p.tables e below (T126.setTop (mkF m 282 #[.val (.int p1), .val (.int p2), .val (.int p3), .val (.int l1), .val (.int l2), .val (.int ch), .val (.int nu), .val (.ref n1), .val (.ref n2), .val (.int (ch.toInt8.toInt32)), .val (.ref b19), .val (.ref ab1), .val (.ref ab2), .val (.int ((l2 + (1 : Int32)) + (1 : Int32))), .val (.int (1 : Int32)), .val (.ref ab2)] [(.int (48 : Int32)), (.int (((48 : Int32) + nu).toInt8.toInt32))])) _
          refine XS.iload X126.here hx rfl (hb hby at_282) rfl ?_
          show Steps p.tables e below (T126.setTop (mkF m 284 #[.val (.int p1), .val (.int p2), .val (.int p3), .val (.int l1), .val (.int l2), .val (.int ch), .val (.int nu), .val (.ref n1), .val (.ref n2), .val (.int (ch.toInt8.toInt32)), .val (.ref b19), .val (.ref ab1), .val (.ref ab2), .val (.int ((l2 + (1 : Int32)) + (1 : Int32))), .val (.int (1 : Int32)), .val (.ref ab2)] [(.int nu), (.int (48 : Int32)), (.int (((48 : Int32) + nu).toInt8.toInt32))])) _
          refine XS.iadd X126.here hx rfl (hb hby at_284) rfl ?_
          show Steps p.tables e below (T126.setTop (mkF m 285 #[.val (.int p1), .val (.int p2), .val (.int p3), .val (.int l1), .val (.int l2), .val (.int ch), .val (.int nu), .val (.ref n1), .val (.ref n2), .val (.int (ch.toInt8.toInt32)), .val (.ref b19), .val (.ref ab1), .val (.ref ab2), .val (.int ((l2 + (1 : Int32)) + (1 : Int32))), .val (.int (1 : Int32)), .val (.ref ab2)] [(.int ((48 : Int32) + nu)), (.int (((48 : Int32) + nu).toInt8.toInt32))])) _
          refine XT.i2b X126.here hx rfl (hb hby at_285) rfl ?_
          show Steps p.tables e below (T126.setTop (mkF m 286 #[.val (.int p1), .val (.int p2), .val (.int p3), .val (.int l1), .val (.int l2), .val (.int ch), .val (.int nu), .val (.ref n1), .val (.ref n2), .val (.int (ch.toInt8.toInt32)), .val (.ref b19), .val (.ref ab1), .val (.ref ab2), .val (.int ((l2 + (1 : Int32)) + (1 : Int32))), .val (.int (1 : Int32)), .val (.ref ab2)] [(.int (((48 : Int32) + nu).toInt8.toInt32)), (.int (((48 : Int32) + nu).toInt8.toInt32))])) _
          refine XS.icmpNo X126.here hx rfl (hb hby at_286) rfl (XT.ii_ne_f rfl) ?_
          show Steps p.tables e below (T126.setTop (mkF m 289 #[.val (.int p1), .val (.int p2), .val (.int p3), .val (.int l1), .val (.int l2), .val (.int ch), .val (.int nu), .val (.ref n1), .val (.ref n2), .val (.int (ch.toInt8.toInt32)), .val (.ref b19), .val (.ref ab1), .val (.ref ab2), .val (.int ((l2 + (1 : Int32)) + (1 : Int32))), .val (.int (1 : Int32)), .val (.ref ab2)] [])) _
          refine XS.iconst X126.here hx rfl (hb hby at_289) ?_
          show Steps p.tables e below (T126.setTop (mkF m 290 #[.val (.int p1), .val (.int p2), .val (.int p3), .val (.int l1), .val (.int l2), .val (.int ch), .val (.int nu), .val (.ref n1), .val (.ref n2), .val (.int (ch.toInt8.toInt32)), .val (.ref b19), .val (.ref ab1), .val (.ref ab2), .val (.int ((l2 + (1 : Int32)) + (1 : Int32))), .val (.int (1 : Int32)), .val (.ref ab2)] [(.int (1 : Int32))])) _
          refine XS.goto X126.here hx rfl (pc0 := 290) (pc' := 294) rfl (hb hby at_290) (by decide) (by decide) ?_
          exact k)
      obtain ⟨fs, hr, hrun, hended, hW, hsame⟩ := X126.leave (v := some (.int (1 : Int32))) (fun h => by rw [Bd.returns] at h; cases h)
      refine ⟨_, _, pre141 _ ?_, hrun, hended, _, _, rfl, ?_, ⟨_, rfl⟩, hW, hsame.mono (by decide) (by decide)⟩
      · show Steps p.tables e below (T126.setTop (mkF m 294 #[.val (.int p1), .val (.int p2), .val (.int p3), .val (.int l1), .val (.int l2), .val (.int ch), .val (.int nu), .val (.ref n1), .val (.ref n2), .val (.int (ch.toInt8.toInt32)), .val (.ref b19), .val (.ref ab1), .val (.ref ab2), .val (.int ((l2 + (1 : Int32)) + (1 : Int32))), .val (.int (1 : Int32)), .val (.ref ab2)] [(.int (1 : Int32))])) _
        exact retN X126 hx (t := .boolean) Bd.returns (by simp) (hb hby at_294) hr
      · show Q0 Z p1 p2 p3 h0 n0 _ T126.heap _
        exact ⟨rfl, N126⟩
    · skip
      have hn' := hn
      rw [Int32.lt_iff_toInt_lt] at hn'
      have Zh12 : n0 ≤ T98.heap.size := Nat.le_trans Z0 K_109.1
      obtain ⟨cq142, kq142, q142a, q142b, q142c⟩ := isOf hZ rfl Ex_103
      obtain ⟨_, _, ⟨T142, L142, k142, n142⟩, -, X142, ⟨Lc142, hQ142, l142, y142, z142⟩, st142⟩ := X98.virtualBack hx (y := (⟨"com/example/gyre/gyre/NodeLabel", "withNumber", "(I)I"⟩ : MethodName)) (z := (⟨"com/example/gyre/gyre/NodeLabel", "withNumber", "(I)I"⟩ : MethodName)) hown (mvT hZ (hw _ (List.mem_of_getElem? (i := 37) rfl))) (mvT hZ (hw _ (List.mem_of_getElem? (i := 38) rfl))) (notFace_of_selects (args := #[]) (mvT hZ (hw _ (List.mem_of_getElem? (i := 40) rfl)))) (mvT hZ (hw _ (List.mem_of_getElem? (i := 40) rfl))) (mvT hZ (hw _ (List.mem_of_getElem? (i := 39) rfl))) (by decide) (backOf (W := 0) (rm8 l Z a0 hw [] b19 ab2 nu (l2 + (1 : Int32)) (l2 + (11 : Int32)) _ T98.heap n0 Zh12 F_100 F_102 V_108 g_ab2 ne_b19_ab2 ⟨by omega, by omega⟩ ⟨by omega, by omega⟩ (by omega)) hZ (hw _ (List.mem_of_getElem? (i := 41) rfl)) (hw _ (List.mem_of_getElem? (i := 7) rfl)) (by decide) (by decide)) q142a q142c (g := (mkF m 217 #[.val (.int p1), .val (.int p2), .val (.int p3), .val (.int l1), .val (.int l2), .val (.int ch), .val (.int nu), .val (.ref n1), .val (.ref n2), .val (.int (ch.toInt8.toInt32)), .val (.ref b19), .val (.ref ab1), .val (.ref ab2), .unset, .unset, .unset] [(.int nu), (.ref b19)])) rfl (by rw [hml]; rfl) (Steps.refl _) (argsL := [(.int nu)]) (rest := []) (lenOf pd_0_5 rfl) rfl (by show 2 * 0 + _ ≤ _; exact Nat.le_of_eq rfl) (hb hby at_217) (fun _ _ => ⟨rfl, rfl, (by decide : 6 + 0 ≤ _), (by decide : 37 + 0 ≤ _)⟩)
      dsimp only [Pt.U, Pt.locs, Pt.cells, Pt.slots] at X142 l142 y142 z142 st142 hQ142
      subst l142 y142 z142
      obtain ⟨rfl, N142q, K142, V142⟩ := hQ142
      have N142 := Fr.app N98 N142q
      have pre143 : own_Go p e below (s₁.setTop (entryFrame m #[(.int p1), (.int p2), (.int p3)] maxLocals)) (T142.setTop (mkF m 220 #[.val (.int p1), .val (.int p2), .val (.int p3), .val (.int l1), .val (.int l2), .val (.int ch), .val (.int nu), .val (.ref n1), .val (.ref n2), .val (.int (ch.toInt8.toInt32)), .val (.ref b19), .val (.ref ab1), .val (.ref ab2), .unset, .unset, .unset] [(.int ((l2 + (1 : Int32)) + (2 : Int32)))])) := fun t k => pre113 t (st142.trans k)
      have F_144 := F_100.keep K142 (ninS ne_b19_ab2 nin0)
      have F_145 := F_101.keep K142 (ninS ne_b19_ab2 nin0)
      have F_146 := F_102.keep K142 (ninS ne_b19_ab2 nin0)
      have Ex_147 := Ex_103.keep K142
      have V_148 := V_104.keep K142 (ninS ne_n1_ab2 nin0)
      have V_149 := V_105.keep K142 (ninS ne_n2_ab2 nin0)
      have V_150 := V_106.keep K142 (ninS ne_ab0_ab2 nin0)
      have V_151 := V_107.keep K142 (ninS ne_ab1_ab2 nin0)
      have K_152 := K_109.trans K142 (allS (Or.inr sz_ab2) all0)
      have Zh13 : n0 ≤ T142.heap.size := Nat.le_trans Z0 K_152.1
      have pre153 : own_Go p e below (s₁.setTop (entryFrame m #[(.int p1), (.int p2), (.int p3)] maxLocals)) (T142.setTop (mkF m 252 #[.val (.int p1), .val (.int p2), .val (.int p3), .val (.int l1), .val (.int l2), .val (.int ch), .val (.int nu), .val (.ref n1), .val (.ref n2), .val (.int (ch.toInt8.toInt32)), .val (.ref b19), .val (.ref ab1), .val (.ref ab2), .val (.int ((l2 + (1 : Int32)) + (2 : Int32))), .val (.int (2 : Int32)), .unset] [(.ref b19)])) := fun t k => pre143 t (by
          show Steps p.tables e below (T142.setTop (mkF m 220 #[.val (.int p1), .val (.int p2), .val (.int p3), .val (.int l1), .val (.int l2), .val (.int ch), .val (.int nu), .val (.ref n1), .val (.ref n2), .val (.int (ch.toInt8.toInt32)), .val (.ref b19), .val (.ref ab1), .val (.ref ab2), .unset, .unset, .unset] [(.int ((l2 + (1 : Int32)) + (2 : Int32)))])) _
          refine XS.istore X142.here hx rfl (hb hby at_220) rfl (l' := #[.val (.int p1), .val (.int p2), .val (.int p3), .val (.int l1), .val (.int l2), .val (.int ch), .val (.int nu), .val (.ref n1), .val (.ref n2), .val (.int (ch.toInt8.toInt32)), .val (.ref b19), .val (.ref ab1), .val (.ref ab2), .val (.int ((l2 + (1 : Int32)) + (2 : Int32))), .unset, .unset]) rfl ?_
          show Steps p.tables e below (T142.setTop (mkF m 222 #[.val (.int p1), .val (.int p2), .val (.int p3), .val (.int l1), .val (.int l2), .val (.int ch), .val (.int nu), .val (.ref n1), .val (.ref n2), .val (.int (ch.toInt8.toInt32)), .val (.ref b19), .val (.ref ab1), .val (.ref ab2), .val (.int ((l2 + (1 : Int32)) + (2 : Int32))), .unset, .unset] [])) _
          refine XS.iload X142.here hx rfl (hb hby at_222) rfl ?_
          show Steps p.tables e below (T142.setTop (mkF m 224 #[.val (.int p1), .val (.int p2), .val (.int p3), .val (.int l1), .val (.int l2), .val (.int ch), .val (.int nu), .val (.ref n1), .val (.ref n2), .val (.int (ch.toInt8.toInt32)), .val (.ref b19), .val (.ref ab1), .val (.ref ab2), .val (.int ((l2 + (1 : Int32)) + (2 : Int32))), .unset, .unset] [(.int nu)])) _
          refine XS.bipush X142.here hx rfl (hb hby at_224) ?_
          show Steps p.tables e below (T142.setTop (mkF m 226 #[.val (.int p1), .val (.int p2), .val (.int p3), .val (.int l1), .val (.int l2), .val (.int ch), .val (.int nu), .val (.ref n1), .val (.ref n2), .val (.int (ch.toInt8.toInt32)), .val (.ref b19), .val (.ref ab1), .val (.ref ab2), .val (.int ((l2 + (1 : Int32)) + (2 : Int32))), .unset, .unset] [(.int (10 : Int32)), (.int nu)])) _
          refine XS.icmpYes X142.here hx rfl (pc0 := 226) (pc' := 233) rfl (hb hby at_226) rfl (XT.ii_ge_t hn) (by decide) (by decide) ?_
          show Steps p.tables e below (T142.setTop (mkF m 233 #[.val (.int p1), .val (.int p2), .val (.int p3), .val (.int l1), .val (.int l2), .val (.int ch), .val (.int nu), .val (.ref n1), .val (.ref n2), .val (.int (ch.toInt8.toInt32)), .val (.ref b19), .val (.ref ab1), .val (.ref ab2), .val (.int ((l2 + (1 : Int32)) + (2 : Int32))), .unset, .unset] [])) _
          refine XS.iconst X142.here hx rfl (hb hby at_233) ?_
          show Steps p.tables e below (T142.setTop (mkF m 234 #[.val (.int p1), .val (.int p2), .val (.int p3), .val (.int l1), .val (.int l2), .val (.int ch), .val (.int nu), .val (.ref n1), .val (.ref n2), .val (.int (ch.toInt8.toInt32)), .val (.ref b19), .val (.ref ab1), .val (.ref ab2), .val (.int ((l2 + (1 : Int32)) + (2 : Int32))), .unset, .unset] [(.int (2 : Int32))])) _
          refine XS.istore X142.here hx rfl (hb hby at_234) rfl (l' := #[.val (.int p1), .val (.int p2), .val (.int p3), .val (.int l1), .val (.int l2), .val (.int ch), .val (.int nu), .val (.ref n1), .val (.ref n2), .val (.int (ch.toInt8.toInt32)), .val (.ref b19), .val (.ref ab1), .val (.ref ab2), .val (.int ((l2 + (1 : Int32)) + (2 : Int32))), .val (.int (2 : Int32)), .unset]) rfl ?_
          show Steps p.tables e below (T142.setTop (mkF m 236 #[.val (.int p1), .val (.int p2), .val (.int p3), .val (.int l1), .val (.int l2), .val (.int ch), .val (.int nu), .val (.ref n1), .val (.ref n2), .val (.int (ch.toInt8.toInt32)), .val (.ref b19), .val (.ref ab1), .val (.ref ab2), .val (.int ((l2 + (1 : Int32)) + (2 : Int32))), .val (.int (2 : Int32)), .unset] [])) _
          refine XS.iload X142.here hx rfl (hb hby at_236) rfl ?_
          show Steps p.tables e below (T142.setTop (mkF m 238 #[.val (.int p1), .val (.int p2), .val (.int p3), .val (.int l1), .val (.int l2), .val (.int ch), .val (.int nu), .val (.ref n1), .val (.ref n2), .val (.int (ch.toInt8.toInt32)), .val (.ref b19), .val (.ref ab1), .val (.ref ab2), .val (.int ((l2 + (1 : Int32)) + (2 : Int32))), .val (.int (2 : Int32)), .unset] [(.int ((l2 + (1 : Int32)) + (2 : Int32)))])) _
          refine XS.iload X142.here hx rfl (hb hby at_238) rfl ?_
          show Steps p.tables e below (T142.setTop (mkF m 240 #[.val (.int p1), .val (.int p2), .val (.int p3), .val (.int l1), .val (.int l2), .val (.int ch), .val (.int nu), .val (.ref n1), .val (.ref n2), .val (.int (ch.toInt8.toInt32)), .val (.ref b19), .val (.ref ab1), .val (.ref ab2), .val (.int ((l2 + (1 : Int32)) + (2 : Int32))), .val (.int (2 : Int32)), .unset] [(.int l2), (.int ((l2 + (1 : Int32)) + (2 : Int32)))])) _
          refine XS.iconst X142.here hx rfl (hb hby at_240) ?_
          show Steps p.tables e below (T142.setTop (mkF m 241 #[.val (.int p1), .val (.int p2), .val (.int p3), .val (.int l1), .val (.int l2), .val (.int ch), .val (.int nu), .val (.ref n1), .val (.ref n2), .val (.int (ch.toInt8.toInt32)), .val (.ref b19), .val (.ref ab1), .val (.ref ab2), .val (.int ((l2 + (1 : Int32)) + (2 : Int32))), .val (.int (2 : Int32)), .unset] [(.int (1 : Int32)), (.int l2), (.int ((l2 + (1 : Int32)) + (2 : Int32)))])) _
          refine XS.iadd X142.here hx rfl (hb hby at_241) rfl ?_
          show Steps p.tables e below (T142.setTop (mkF m 242 #[.val (.int p1), .val (.int p2), .val (.int p3), .val (.int l1), .val (.int l2), .val (.int ch), .val (.int nu), .val (.ref n1), .val (.ref n2), .val (.int (ch.toInt8.toInt32)), .val (.ref b19), .val (.ref ab1), .val (.ref ab2), .val (.int ((l2 + (1 : Int32)) + (2 : Int32))), .val (.int (2 : Int32)), .unset] [(.int (l2 + (1 : Int32))), (.int ((l2 + (1 : Int32)) + (2 : Int32)))])) _
          refine XS.iload X142.here hx rfl (hb hby at_242) rfl ?_
          show Steps p.tables e below (T142.setTop (mkF m 244 #[.val (.int p1), .val (.int p2), .val (.int p3), .val (.int l1), .val (.int l2), .val (.int ch), .val (.int nu), .val (.ref n1), .val (.ref n2), .val (.int (ch.toInt8.toInt32)), .val (.ref b19), .val (.ref ab1), .val (.ref ab2), .val (.int ((l2 + (1 : Int32)) + (2 : Int32))), .val (.int (2 : Int32)), .unset] [(.int (2 : Int32)), (.int (l2 + (1 : Int32))), (.int ((l2 + (1 : Int32)) + (2 : Int32)))])) _
          refine XS.iadd X142.here hx rfl (hb hby at_244) rfl ?_
          show Steps p.tables e below (T142.setTop (mkF m 245 #[.val (.int p1), .val (.int p2), .val (.int p3), .val (.int l1), .val (.int l2), .val (.int ch), .val (.int nu), .val (.ref n1), .val (.ref n2), .val (.int (ch.toInt8.toInt32)), .val (.ref b19), .val (.ref ab1), .val (.ref ab2), .val (.int ((l2 + (1 : Int32)) + (2 : Int32))), .val (.int (2 : Int32)), .unset] [(.int ((l2 + (1 : Int32)) + (2 : Int32))), (.int ((l2 + (1 : Int32)) + (2 : Int32)))])) _
          refine XS.icmpYes X142.here hx rfl (pc0 := 245) (pc' := 250) rfl (hb hby at_245) rfl (XT.ii_eq_t rfl) (by decide) (by decide) ?_
          show Steps p.tables e below (T142.setTop (mkF m 250 #[.val (.int p1), .val (.int p2), .val (.int p3), .val (.int l1), .val (.int l2), .val (.int ch), .val (.int nu), .val (.ref n1), .val (.ref n2), .val (.int (ch.toInt8.toInt32)), .val (.ref b19), .val (.ref ab1), .val (.ref ab2), .val (.int ((l2 + (1 : Int32)) + (2 : Int32))), .val (.int (2 : Int32)), .unset] [])) _
          refine XS.aload X142.here hx rfl (hb hby at_250) rfl rfl ?_
          exact k)
      obtain ⟨cq154, kq154, q154a, q154b, q154c⟩ := isOf hZ rfl Ex_147
      obtain ⟨_, _, ⟨T154, L154, k154, n154⟩, -, X154, ⟨Lc154, hQ154, l154, y154, z154⟩, st154⟩ := X142.virtualBack hx (y := (⟨"com/example/gyre/gyre/NodeLabel", "bytes", "()[B"⟩ : MethodName)) (z := (⟨"com/example/gyre/gyre/NodeLabel", "bytes", "()[B"⟩ : MethodName)) hown (mvT hZ (hw _ (List.mem_of_getElem? (i := 29) rfl))) (mvT hZ (hw _ (List.mem_of_getElem? (i := 30) rfl))) (notFace_of_selects (args := #[]) (mvT hZ (hw _ (List.mem_of_getElem? (i := 32) rfl)))) (mvT hZ (hw _ (List.mem_of_getElem? (i := 32) rfl))) (mvT hZ (hw _ (List.mem_of_getElem? (i := 31) rfl))) (by decide) (backOf (W := 0) (rm4 l Z a0 hw [] b19 ab2 T142.heap n0 Zh13 F_144) hZ (hw _ (List.mem_of_getElem? (i := 33) rfl)) (hw _ (List.mem_of_getElem? (i := 7) rfl)) (by decide) (by decide)) q154a q154c (g := (mkF m 252 #[.val (.int p1), .val (.int p2), .val (.int p3), .val (.int l1), .val (.int l2), .val (.int ch), .val (.int nu), .val (.ref n1), .val (.ref n2), .val (.int (ch.toInt8.toInt32)), .val (.ref b19), .val (.ref ab1), .val (.ref ab2), .val (.int ((l2 + (1 : Int32)) + (2 : Int32))), .val (.int (2 : Int32)), .unset] [(.ref b19)])) rfl (by rw [hml]; rfl) (Steps.refl _) (argsL := []) (rest := []) (lenOf pd_0_3 rfl) rfl (by show 2 * 0 + _ ≤ _; exact Nat.le_of_eq rfl) (hb hby at_252) (fun _ _ => ⟨rfl, rfl, (by decide : 6 + 0 ≤ _), (by decide : 37 + 0 ≤ _)⟩)
      dsimp only [Pt.U, Pt.locs, Pt.cells, Pt.slots] at X154 l154 y154 z154 st154 hQ154
      subst l154 y154 z154
      obtain ⟨rfl, N154q, hh154⟩ := hQ154
      have N154 := Fr.app N142 N154q
      have pre155 : own_Go p e below (s₁.setTop (entryFrame m #[(.int p1), (.int p2), (.int p3)] maxLocals)) (T154.setTop (mkF m 255 #[.val (.int p1), .val (.int p2), .val (.int p3), .val (.int l1), .val (.int l2), .val (.int ch), .val (.int nu), .val (.ref n1), .val (.ref n2), .val (.int (ch.toInt8.toInt32)), .val (.ref b19), .val (.ref ab1), .val (.ref ab2), .val (.int ((l2 + (1 : Int32)) + (2 : Int32))), .val (.int (2 : Int32)), .unset] [(.ref ab2)])) := fun t k => pre153 t (st154.trans k)
      have F_156 := F_144
      rw [← hh154] at F_156
      have F_157 := F_145
      rw [← hh154] at F_157
      have F_158 := F_146
      rw [← hh154] at F_158
      have Ex_159 := Ex_147
      rw [← hh154] at Ex_159
      have V_160 := V_148
      rw [← hh154] at V_160
      have V_161 := V_149
      rw [← hh154] at V_161
      have V_162 := V_150
      rw [← hh154] at V_162
      have V_163 := V_151
      rw [← hh154] at V_163
      have V_164 := V142
      rw [← hh154] at V_164
      have K_165 := K_152
      rw [← hh154] at K_165
      have qd1 := own_div10 (x := nu) hnu.1
      have pre166 : own_Go p e below (s₁.setTop (entryFrame m #[(.int p1), (.int p2), (.int p3)] maxLocals)) (T154.setTop (mkF m 301 #[.val (.int p1), .val (.int p2), .val (.int p3), .val (.int l1), .val (.int l2), .val (.int ch), .val (.int nu), .val (.ref n1), .val (.ref n2), .val (.int (ch.toInt8.toInt32)), .val (.ref b19), .val (.ref ab1), .val (.ref ab2), .val (.int ((l2 + (1 : Int32)) + (2 : Int32))), .val (.int (2 : Int32)), .val (.ref ab2)] [(.int (l2 + (1 : Int32))), (.ref ab2)])) := fun t k => pre155 t (by
          show Steps p.tables e below (T154.setTop (mkF m 255 #[.val (.int p1), .val (.int p2), .val (.int p3), .val (.int l1), .val (.int l2), .val (.int ch), .val (.int nu), .val (.ref n1), .val (.ref n2), .val (.int (ch.toInt8.toInt32)), .val (.ref b19), .val (.ref ab1), .val (.ref ab2), .val (.int ((l2 + (1 : Int32)) + (2 : Int32))), .val (.int (2 : Int32)), .unset] [(.ref ab2)])) _
          refine XS.astore X154.here hx rfl (hb hby at_255) rfl rfl (l' := #[.val (.int p1), .val (.int p2), .val (.int p3), .val (.int l1), .val (.int l2), .val (.int ch), .val (.int nu), .val (.ref n1), .val (.ref n2), .val (.int (ch.toInt8.toInt32)), .val (.ref b19), .val (.ref ab1), .val (.ref ab2), .val (.int ((l2 + (1 : Int32)) + (2 : Int32))), .val (.int (2 : Int32)), .val (.ref ab2)]) rfl ?_
          show Steps p.tables e below (T154.setTop (mkF m 257 #[.val (.int p1), .val (.int p2), .val (.int p3), .val (.int l1), .val (.int l2), .val (.int ch), .val (.int nu), .val (.ref n1), .val (.ref n2), .val (.int (ch.toInt8.toInt32)), .val (.ref b19), .val (.ref ab1), .val (.ref ab2), .val (.int ((l2 + (1 : Int32)) + (2 : Int32))), .val (.int (2 : Int32)), .val (.ref ab2)] [])) _
          refine XS.aload X154.here hx rfl (hb hby at_257) rfl rfl ?_
          show Steps p.tables e below (T154.setTop (mkF m 259 #[.val (.int p1), .val (.int p2), .val (.int p3), .val (.int l1), .val (.int l2), .val (.int ch), .val (.int nu), .val (.ref n1), .val (.ref n2), .val (.int (ch.toInt8.toInt32)), .val (.ref b19), .val (.ref ab1), .val (.ref ab2), .val (.int ((l2 + (1 : Int32)) + (2 : Int32))), .val (.int (2 : Int32)), .val (.ref ab2)] [(.ref ab2)])) _
          refine XS.aload X154.here hx rfl (hb hby at_259) rfl rfl ?_
          show Steps p.tables e below (T154.setTop (mkF m 261 #[.val (.int p1), .val (.int p2), .val (.int p3), .val (.int l1), .val (.int l2), .val (.int ch), .val (.int nu), .val (.ref n1), .val (.ref n2), .val (.int (ch.toInt8.toInt32)), .val (.ref b19), .val (.ref ab1), .val (.ref ab2), .val (.int ((l2 + (1 : Int32)) + (2 : Int32))), .val (.int (2 : Int32)), .val (.ref ab2)] [(.ref ab2), (.ref ab2)])) _
          refine Jvm.RoadKit.acmp (g := (mkF m 261 #[.val (.int p1), .val (.int p2), .val (.int p3), .val (.int l1), .val (.int l2), .val (.int ch), .val (.int nu), .val (.ref n1), .val (.ref n2), .val (.int (ch.toInt8.toInt32)), .val (.ref b19), .val (.ref ab1), .val (.ref ab2), .val (.int ((l2 + (1 : Int32)) + (2 : Int32))), .val (.int (2 : Int32)), .val (.ref ab2)] [(.ref ab2), (.ref ab2)])) X154 hx rfl rfl rfl (pc0 := 261) (pc' := 266) (same := true) rfl (hb hby at_261) rfl (decide_eq_true rfl) (by decide) (by decide) ?_
          show Steps p.tables e below (T154.setTop (mkF m 266 #[.val (.int p1), .val (.int p2), .val (.int p3), .val (.int l1), .val (.int l2), .val (.int ch), .val (.int nu), .val (.ref n1), .val (.ref n2), .val (.int (ch.toInt8.toInt32)), .val (.ref b19), .val (.ref ab1), .val (.ref ab2), .val (.int ((l2 + (1 : Int32)) + (2 : Int32))), .val (.int (2 : Int32)), .val (.ref ab2)] [])) _
          refine XS.iload X154.here hx rfl (hb hby at_266) rfl ?_
          show Steps p.tables e below (T154.setTop (mkF m 268 #[.val (.int p1), .val (.int p2), .val (.int p3), .val (.int l1), .val (.int l2), .val (.int ch), .val (.int nu), .val (.ref n1), .val (.ref n2), .val (.int (ch.toInt8.toInt32)), .val (.ref b19), .val (.ref ab1), .val (.ref ab2), .val (.int ((l2 + (1 : Int32)) + (2 : Int32))), .val (.int (2 : Int32)), .val (.ref ab2)] [(.int nu)])) _
          refine XS.bipush X154.here hx rfl (hb hby at_268) ?_
          show Steps p.tables e below (T154.setTop (mkF m 270 #[.val (.int p1), .val (.int p2), .val (.int p3), .val (.int l1), .val (.int l2), .val (.int ch), .val (.int nu), .val (.ref n1), .val (.ref n2), .val (.int (ch.toInt8.toInt32)), .val (.ref b19), .val (.ref ab1), .val (.ref ab2), .val (.int ((l2 + (1 : Int32)) + (2 : Int32))), .val (.int (2 : Int32)), .val (.ref ab2)] [(.int (10 : Int32)), (.int nu)])) _
          refine XS.icmpYes X154.here hx rfl (pc0 := 270) (pc' := 295) rfl (hb hby at_270) rfl (XT.ii_ge_t hn) (by decide) (by decide) ?_
          show Steps p.tables e below (T154.setTop (mkF m 295 #[.val (.int p1), .val (.int p2), .val (.int p3), .val (.int l1), .val (.int l2), .val (.int ch), .val (.int nu), .val (.ref n1), .val (.ref n2), .val (.int (ch.toInt8.toInt32)), .val (.ref b19), .val (.ref ab1), .val (.ref ab2), .val (.int ((l2 + (1 : Int32)) + (2 : Int32))), .val (.int (2 : Int32)), .val (.ref ab2)] [])) _
          refine XS.aload X154.here hx rfl (hb hby at_295) rfl rfl ?_
          show Steps p.tables e below (T154.setTop (mkF m 297 #[.val (.int p1), .val (.int p2), .val (.int p3), .val (.int l1), .val (.int l2), .val (.int ch), .val (.int nu), .val (.ref n1), .val (.ref n2), .val (.int (ch.toInt8.toInt32)), .val (.ref b19), .val (.ref ab1), .val (.ref ab2), .val (.int ((l2 + (1 : Int32)) + (2 : Int32))), .val (.int (2 : Int32)), .val (.ref ab2)] [(.ref ab2)])) _
          refine XS.iload X154.here hx rfl (hb hby at_297) rfl ?_
          show Steps p.tables e below (T154.setTop (mkF m 299 #[.val (.int p1), .val (.int p2), .val (.int p3), .val (.int l1), .val (.int l2), .val (.int ch), .val (.int nu), .val (.ref n1), .val (.ref n2), .val (.int (ch.toInt8.toInt32)), .val (.ref b19), .val (.ref ab1), .val (.ref ab2), .val (.int ((l2 + (1 : Int32)) + (2 : Int32))), .val (.int (2 : Int32)), .val (.ref ab2)] [(.int l2), (.ref ab2)])) _
          refine XS.iconst X154.here hx rfl (hb hby at_299) ?_
          show Steps p.tables e below (T154.setTop (mkF m 300 #[.val (.int p1), .val (.int p2), .val (.int p3), .val (.int l1), .val (.int l2), .val (.int ch), .val (.int nu), .val (.ref n1), .val (.ref n2), .val (.int (ch.toInt8.toInt32)), .val (.ref b19), .val (.ref ab1), .val (.ref ab2), .val (.int ((l2 + (1 : Int32)) + (2 : Int32))), .val (.int (2 : Int32)), .val (.ref ab2)] [(.int (1 : Int32)), (.int l2), (.ref ab2)])) _
          refine XS.iadd X154.here hx rfl (hb hby at_300) rfl ?_
          exact k)
      obtain ⟨cl167, Ar167, hin167, hv167⟩ := own_A.at V_164 (j := (l2 + (1 : Int32))) (own_n0 (by omega)) (own_lt (by omega))
      have pre168 : own_Go p e below (s₁.setTop (entryFrame m #[(.int p1), (.int p2), (.int p3)] maxLocals)) (T154.setTop (mkF m 302 #[.val (.int p1), .val (.int p2), .val (.int p3), .val (.int l1), .val (.int l2), .val (.int ch), .val (.int nu), .val (.ref n1), .val (.ref n2), .val (.int (ch.toInt8.toInt32)), .val (.ref b19), .val (.ref ab1), .val (.ref ab2), .val (.int ((l2 + (1 : Int32)) + (2 : Int32))), .val (.int (2 : Int32)), .val (.ref ab2)] [(.int (((48 : Int32) + (nu / (10 : Int32))).toInt8.toInt32))])) := fun t k => pre166 t (X154.baloadBytes hx (j := (l2 + (1 : Int32))) (v := .int (((48 : Int32) + (nu / (10 : Int32))).toInt8.toInt32)) (by rw [show T154.heap = T154.heap from rfl]; exact Ar167.1) (State.isArrayOf_alike hZ.alike Ar167.2.1) Ar167.2.2 hin167 (hv167.trans (congrArg (fun z => some (Value.int z)) ((own_upd_hit _ _ rfl).trans (own_dig1 (by omega) (by omega))))) (g := (mkF m 301 #[.val (.int p1), .val (.int p2), .val (.int p3), .val (.int l1), .val (.int l2), .val (.int ch), .val (.int nu), .val (.ref n1), .val (.ref n2), .val (.int (ch.toInt8.toInt32)), .val (.ref b19), .val (.ref ab1), .val (.ref ab2), .val (.int ((l2 + (1 : Int32)) + (2 : Int32))), .val (.int (2 : Int32)), .val (.ref ab2)] [(.int (l2 + (1 : Int32))), (.ref ab2)])) rfl rfl (hb hby at_301) t k)
      have pre169 : own_Go p e below (s₁.setTop (entryFrame m #[(.int p1), (.int p2), (.int p3)] maxLocals)) (T154.setTop (mkF m 320 #[.val (.int p1), .val (.int p2), .val (.int p3), .val (.int l1), .val (.int l2), .val (.int ch), .val (.int nu), .val (.ref n1), .val (.ref n2), .val (.int (ch.toInt8.toInt32)), .val (.ref b19), .val (.ref ab1), .val (.ref ab2), .val (.int ((l2 + (1 : Int32)) + (2 : Int32))), .val (.int (2 : Int32)), .val (.ref ab2)] [(.int (l2 + (2 : Int32))), (.ref ab2)])) := fun t k => pre168 t (by
          show Steps p.tables e below (T154.setTop (mkF m 302 #[.val (.int p1), .val (.int p2), .val (.int p3), .val (.int l1), .val (.int l2), .val (.int ch), .val (.int nu), .val (.ref n1), .val (.ref n2), .val (.int (ch.toInt8.toInt32)), .val (.ref b19), .val (.ref ab1), .val (.ref ab2), .val (.int ((l2 + (1 : Int32)) + (2 : Int32))), .val (.int (2 : Int32)), .val (.ref ab2)] [(.int (((48 : Int32) + (nu / (10 : Int32))).toInt8.toInt32))])) _
          refine XS.bipush X154.here hx rfl (hb hby at_302) ?_
          show Steps p.tables e below (T154.setTop (mkF m 304 #[.val (.int p1), .val (.int p2), .val (.int p3), .val (.int l1), .val (.int l2), .val (.int ch), .val (.int nu), .val (.ref n1), .val (.ref n2), .val (.int (ch.toInt8.toInt32)), .val (.ref b19), .val (.ref ab1), .val (.ref ab2), .val (.int ((l2 + (1 : Int32)) + (2 : Int32))), .val (.int (2 : Int32)), .val (.ref ab2)] [(.int (48 : Int32)), (.int (((48 : Int32) + (nu / (10 : Int32))).toInt8.toInt32))])) _
          refine XS.iload X154.here hx rfl (hb hby at_304) rfl ?_
          show Steps p.tables e below (T154.setTop (mkF m 306 #[.val (.int p1), .val (.int p2), .val (.int p3), .val (.int l1), .val (.int l2), .val (.int ch), .val (.int nu), .val (.ref n1), .val (.ref n2), .val (.int (ch.toInt8.toInt32)), .val (.ref b19), .val (.ref ab1), .val (.ref ab2), .val (.int ((l2 + (1 : Int32)) + (2 : Int32))), .val (.int (2 : Int32)), .val (.ref ab2)] [(.int nu), (.int (48 : Int32)), (.int (((48 : Int32) + (nu / (10 : Int32))).toInt8.toInt32))])) _
          refine XS.bipush X154.here hx rfl (hb hby at_306) ?_
          show Steps p.tables e below (T154.setTop (mkF m 308 #[.val (.int p1), .val (.int p2), .val (.int p3), .val (.int l1), .val (.int l2), .val (.int ch), .val (.int nu), .val (.ref n1), .val (.ref n2), .val (.int (ch.toInt8.toInt32)), .val (.ref b19), .val (.ref ab1), .val (.ref ab2), .val (.int ((l2 + (1 : Int32)) + (2 : Int32))), .val (.int (2 : Int32)), .val (.ref ab2)] [(.int (10 : Int32)), (.int nu), (.int (48 : Int32)), (.int (((48 : Int32) + (nu / (10 : Int32))).toInt8.toInt32))])) _
          refine XS.idiv X154.here hx rfl (hb hby at_308) rfl (by decide) ?_
          show Steps p.tables e below (T154.setTop (mkF m 309 #[.val (.int p1), .val (.int p2), .val (.int p3), .val (.int l1), .val (.int l2), .val (.int ch), .val (.int nu), .val (.ref n1), .val (.ref n2), .val (.int (ch.toInt8.toInt32)), .val (.ref b19), .val (.ref ab1), .val (.ref ab2), .val (.int ((l2 + (1 : Int32)) + (2 : Int32))), .val (.int (2 : Int32)), .val (.ref ab2)] [(.int (nu / (10 : Int32))), (.int (48 : Int32)), (.int (((48 : Int32) + (nu / (10 : Int32))).toInt8.toInt32))])) _
          refine XS.iadd X154.here hx rfl (hb hby at_309) rfl ?_
          show Steps p.tables e below (T154.setTop (mkF m 310 #[.val (.int p1), .val (.int p2), .val (.int p3), .val (.int l1), .val (.int l2), .val (.int ch), .val (.int nu), .val (.ref n1), .val (.ref n2), .val (.int (ch.toInt8.toInt32)), .val (.ref b19), .val (.ref ab1), .val (.ref ab2), .val (.int ((l2 + (1 : Int32)) + (2 : Int32))), .val (.int (2 : Int32)), .val (.ref ab2)] [(.int ((48 : Int32) + (nu / (10 : Int32)))), (.int (((48 : Int32) + (nu / (10 : Int32))).toInt8.toInt32))])) _
          refine XT.i2b X154.here hx rfl (hb hby at_310) rfl ?_
          show Steps p.tables e below (T154.setTop (mkF m 311 #[.val (.int p1), .val (.int p2), .val (.int p3), .val (.int l1), .val (.int l2), .val (.int ch), .val (.int nu), .val (.ref n1), .val (.ref n2), .val (.int (ch.toInt8.toInt32)), .val (.ref b19), .val (.ref ab1), .val (.ref ab2), .val (.int ((l2 + (1 : Int32)) + (2 : Int32))), .val (.int (2 : Int32)), .val (.ref ab2)] [(.int (((48 : Int32) + (nu / (10 : Int32))).toInt8.toInt32)), (.int (((48 : Int32) + (nu / (10 : Int32))).toInt8.toInt32))])) _
          refine XS.icmpNo X154.here hx rfl (hb hby at_311) rfl (XT.ii_ne_f rfl) ?_
          show Steps p.tables e below (T154.setTop (mkF m 314 #[.val (.int p1), .val (.int p2), .val (.int p3), .val (.int l1), .val (.int l2), .val (.int ch), .val (.int nu), .val (.ref n1), .val (.ref n2), .val (.int (ch.toInt8.toInt32)), .val (.ref b19), .val (.ref ab1), .val (.ref ab2), .val (.int ((l2 + (1 : Int32)) + (2 : Int32))), .val (.int (2 : Int32)), .val (.ref ab2)] [])) _
          refine XS.aload X154.here hx rfl (hb hby at_314) rfl rfl ?_
          show Steps p.tables e below (T154.setTop (mkF m 316 #[.val (.int p1), .val (.int p2), .val (.int p3), .val (.int l1), .val (.int l2), .val (.int ch), .val (.int nu), .val (.ref n1), .val (.ref n2), .val (.int (ch.toInt8.toInt32)), .val (.ref b19), .val (.ref ab1), .val (.ref ab2), .val (.int ((l2 + (1 : Int32)) + (2 : Int32))), .val (.int (2 : Int32)), .val (.ref ab2)] [(.ref ab2)])) _
          refine XS.iload X154.here hx rfl (hb hby at_316) rfl ?_
          show Steps p.tables e below (T154.setTop (mkF m 318 #[.val (.int p1), .val (.int p2), .val (.int p3), .val (.int l1), .val (.int l2), .val (.int ch), .val (.int nu), .val (.ref n1), .val (.ref n2), .val (.int (ch.toInt8.toInt32)), .val (.ref b19), .val (.ref ab1), .val (.ref ab2), .val (.int ((l2 + (1 : Int32)) + (2 : Int32))), .val (.int (2 : Int32)), .val (.ref ab2)] [(.int l2), (.ref ab2)])) _
          refine XS.iconst X154.here hx rfl (hb hby at_318) ?_
          show Steps p.tables e below (T154.setTop (mkF m 319 #[.val (.int p1), .val (.int p2), .val (.int p3), .val (.int l1), .val (.int l2), .val (.int ch), .val (.int nu), .val (.ref n1), .val (.ref n2), .val (.int (ch.toInt8.toInt32)), .val (.ref b19), .val (.ref ab1), .val (.ref ab2), .val (.int ((l2 + (1 : Int32)) + (2 : Int32))), .val (.int (2 : Int32)), .val (.ref ab2)] [(.int (2 : Int32)), (.int l2), (.ref ab2)])) _
          refine XS.iadd X154.here hx rfl (hb hby at_319) rfl ?_
          exact k)
      obtain ⟨cl170, Ar170, hin170, hv170⟩ := own_A.at V_164 (j := (l2 + (2 : Int32))) (own_n0 (by omega)) (own_lt (by omega))
      have pre171 : own_Go p e below (s₁.setTop (entryFrame m #[(.int p1), (.int p2), (.int p3)] maxLocals)) (T154.setTop (mkF m 321 #[.val (.int p1), .val (.int p2), .val (.int p3), .val (.int l1), .val (.int l2), .val (.int ch), .val (.int nu), .val (.ref n1), .val (.ref n2), .val (.int (ch.toInt8.toInt32)), .val (.ref b19), .val (.ref ab1), .val (.ref ab2), .val (.int ((l2 + (1 : Int32)) + (2 : Int32))), .val (.int (2 : Int32)), .val (.ref ab2)] [(.int (((48 : Int32) + (nu % (10 : Int32))).toInt8.toInt32))])) := fun t k => pre169 t (X154.baloadBytes hx (j := (l2 + (2 : Int32))) (v := .int (((48 : Int32) + (nu % (10 : Int32))).toInt8.toInt32)) (by rw [show T154.heap = T154.heap from rfl]; exact Ar170.1) (State.isArrayOf_alike hZ.alike Ar170.2.1) Ar170.2.2 hin170 (hv170.trans (congrArg (fun z => some (Value.int z)) ((own_upd_miss _ _ (own_nn (own_n0 (by omega)) (own_n0 (by omega)) (own_ne (by omega)))).trans ((own_upd_hit _ _ (by rw [own_s4])).trans (own_narb _))))) (g := (mkF m 320 #[.val (.int p1), .val (.int p2), .val (.int p3), .val (.int l1), .val (.int l2), .val (.int ch), .val (.int nu), .val (.ref n1), .val (.ref n2), .val (.int (ch.toInt8.toInt32)), .val (.ref b19), .val (.ref ab1), .val (.ref ab2), .val (.int ((l2 + (1 : Int32)) + (2 : Int32))), .val (.int (2 : Int32)), .val (.ref ab2)] [(.int (l2 + (2 : Int32))), (.ref ab2)])) rfl rfl (hb hby at_320) t k)
      have pre172 : own_Go p e below (s₁.setTop (entryFrame m #[(.int p1), (.int p2), (.int p3)] maxLocals)) (T154.setTop (mkF m 338 #[.val (.int p1), .val (.int p2), .val (.int p3), .val (.int l1), .val (.int l2), .val (.int ch), .val (.int nu), .val (.ref n1), .val (.ref n2), .val (.int (ch.toInt8.toInt32)), .val (.ref b19), .val (.ref ab1), .val (.ref ab2), .val (.int ((l2 + (1 : Int32)) + (2 : Int32))), .val (.int (2 : Int32)), .val (.ref ab2)] [(.int (1 : Int32))])) := fun t k => pre171 t (by
          show Steps p.tables e below (T154.setTop (mkF m 321 #[.val (.int p1), .val (.int p2), .val (.int p3), .val (.int l1), .val (.int l2), .val (.int ch), .val (.int nu), .val (.ref n1), .val (.ref n2), .val (.int (ch.toInt8.toInt32)), .val (.ref b19), .val (.ref ab1), .val (.ref ab2), .val (.int ((l2 + (1 : Int32)) + (2 : Int32))), .val (.int (2 : Int32)), .val (.ref ab2)] [(.int (((48 : Int32) + (nu % (10 : Int32))).toInt8.toInt32))])) _
          refine XS.bipush X154.here hx rfl (hb hby at_321) ?_
          show Steps p.tables e below (T154.setTop (mkF m 323 #[.val (.int p1), .val (.int p2), .val (.int p3), .val (.int l1), .val (.int l2), .val (.int ch), .val (.int nu), .val (.ref n1), .val (.ref n2), .val (.int (ch.toInt8.toInt32)), .val (.ref b19), .val (.ref ab1), .val (.ref ab2), .val (.int ((l2 + (1 : Int32)) + (2 : Int32))), .val (.int (2 : Int32)), .val (.ref ab2)] [(.int (48 : Int32)), (.int (((48 : Int32) + (nu % (10 : Int32))).toInt8.toInt32))])) _
          refine XS.iload X154.here hx rfl (hb hby at_323) rfl ?_
          show Steps p.tables e below (T154.setTop (mkF m 325 #[.val (.int p1), .val (.int p2), .val (.int p3), .val (.int l1), .val (.int l2), .val (.int ch), .val (.int nu), .val (.ref n1), .val (.ref n2), .val (.int (ch.toInt8.toInt32)), .val (.ref b19), .val (.ref ab1), .val (.ref ab2), .val (.int ((l2 + (1 : Int32)) + (2 : Int32))), .val (.int (2 : Int32)), .val (.ref ab2)] [(.int nu), (.int (48 : Int32)), (.int (((48 : Int32) + (nu % (10 : Int32))).toInt8.toInt32))])) _
          refine XS.bipush X154.here hx rfl (hb hby at_325) ?_
          show Steps p.tables e below (T154.setTop (mkF m 327 #[.val (.int p1), .val (.int p2), .val (.int p3), .val (.int l1), .val (.int l2), .val (.int ch), .val (.int nu), .val (.ref n1), .val (.ref n2), .val (.int (ch.toInt8.toInt32)), .val (.ref b19), .val (.ref ab1), .val (.ref ab2), .val (.int ((l2 + (1 : Int32)) + (2 : Int32))), .val (.int (2 : Int32)), .val (.ref ab2)] [(.int (10 : Int32)), (.int nu), (.int (48 : Int32)), (.int (((48 : Int32) + (nu % (10 : Int32))).toInt8.toInt32))])) _
          refine iremM X154 hx rfl (hb hby at_327) rfl (by decide) ?_
          show Steps p.tables e below (T154.setTop (mkF m 328 #[.val (.int p1), .val (.int p2), .val (.int p3), .val (.int l1), .val (.int l2), .val (.int ch), .val (.int nu), .val (.ref n1), .val (.ref n2), .val (.int (ch.toInt8.toInt32)), .val (.ref b19), .val (.ref ab1), .val (.ref ab2), .val (.int ((l2 + (1 : Int32)) + (2 : Int32))), .val (.int (2 : Int32)), .val (.ref ab2)] [(.int (nu % (10 : Int32))), (.int (48 : Int32)), (.int (((48 : Int32) + (nu % (10 : Int32))).toInt8.toInt32))])) _
          refine XS.iadd X154.here hx rfl (hb hby at_328) rfl ?_
          show Steps p.tables e below (T154.setTop (mkF m 329 #[.val (.int p1), .val (.int p2), .val (.int p3), .val (.int l1), .val (.int l2), .val (.int ch), .val (.int nu), .val (.ref n1), .val (.ref n2), .val (.int (ch.toInt8.toInt32)), .val (.ref b19), .val (.ref ab1), .val (.ref ab2), .val (.int ((l2 + (1 : Int32)) + (2 : Int32))), .val (.int (2 : Int32)), .val (.ref ab2)] [(.int ((48 : Int32) + (nu % (10 : Int32)))), (.int (((48 : Int32) + (nu % (10 : Int32))).toInt8.toInt32))])) _
          refine XT.i2b X154.here hx rfl (hb hby at_329) rfl ?_
          show Steps p.tables e below (T154.setTop (mkF m 330 #[.val (.int p1), .val (.int p2), .val (.int p3), .val (.int l1), .val (.int l2), .val (.int ch), .val (.int nu), .val (.ref n1), .val (.ref n2), .val (.int (ch.toInt8.toInt32)), .val (.ref b19), .val (.ref ab1), .val (.ref ab2), .val (.int ((l2 + (1 : Int32)) + (2 : Int32))), .val (.int (2 : Int32)), .val (.ref ab2)] [(.int (((48 : Int32) + (nu % (10 : Int32))).toInt8.toInt32)), (.int (((48 : Int32) + (nu % (10 : Int32))).toInt8.toInt32))])) _
          refine XS.icmpNo X154.here hx rfl (hb hby at_330) rfl (XT.ii_ne_f rfl) ?_
          show Steps p.tables e below (T154.setTop (mkF m 333 #[.val (.int p1), .val (.int p2), .val (.int p3), .val (.int l1), .val (.int l2), .val (.int ch), .val (.int nu), .val (.ref n1), .val (.ref n2), .val (.int (ch.toInt8.toInt32)), .val (.ref b19), .val (.ref ab1), .val (.ref ab2), .val (.int ((l2 + (1 : Int32)) + (2 : Int32))), .val (.int (2 : Int32)), .val (.ref ab2)] [])) _
          refine XS.iconst X154.here hx rfl (hb hby at_333) ?_
          show Steps p.tables e below (T154.setTop (mkF m 334 #[.val (.int p1), .val (.int p2), .val (.int p3), .val (.int l1), .val (.int l2), .val (.int ch), .val (.int nu), .val (.ref n1), .val (.ref n2), .val (.int (ch.toInt8.toInt32)), .val (.ref b19), .val (.ref ab1), .val (.ref ab2), .val (.int ((l2 + (1 : Int32)) + (2 : Int32))), .val (.int (2 : Int32)), .val (.ref ab2)] [(.int (1 : Int32))])) _
          refine XS.goto X154.here hx rfl (pc0 := 334) (pc' := 338) rfl (hb hby at_334) (by decide) (by decide) ?_
          exact k)
      obtain ⟨fs, hr, hrun, hended, hW, hsame⟩ := X154.leave (v := some (.int (1 : Int32))) (fun h => by rw [Bd.returns] at h; cases h)
      refine ⟨_, _, pre172 _ ?_, hrun, hended, _, _, rfl, ?_, ⟨_, rfl⟩, hW, hsame.mono (by decide) (by decide)⟩
      · show Steps p.tables e below (T154.setTop (mkF m 338 #[.val (.int p1), .val (.int p2), .val (.int p3), .val (.int l1), .val (.int l2), .val (.int ch), .val (.int nu), .val (.ref n1), .val (.ref n2), .val (.int (ch.toInt8.toInt32)), .val (.ref b19), .val (.ref ab1), .val (.ref ab2), .val (.int ((l2 + (1 : Int32)) + (2 : Int32))), .val (.int (2 : Int32)), .val (.ref ab2)] [(.int (1 : Int32))])) _
        exact retN X154 hx (t := .boolean) Bd.returns (by simp) (hb hby at_338) hr
      · show Q0 Z p1 p2 p3 h0 n0 _ T154.heap _
        exact ⟨rfl, N154⟩
  · skip
    have hc' := hc
    rw [Int32.lt_iff_toInt_lt] at hc'
    have Zh14 : n0 ≤ T55.heap.size := Nat.le_trans Z0 K_65.1
    obtain ⟨cq173, kq173, q173a, q173b, q173c⟩ := isOf hZ rfl Ex_60
    obtain ⟨_, _, ⟨T173, L173, k173, n173⟩, -, X173, ⟨Lc173, hQ173, l173, y173, z173⟩, st173⟩ := X55.virtualBack hx (y := (⟨"com/example/gyre/gyre/NodeLabel", "startNode", "([B)V"⟩ : MethodName)) (z := (⟨"com/example/gyre/gyre/NodeLabel", "startNode", "([B)V"⟩ : MethodName)) hown (mvT hZ (hw _ (List.mem_of_getElem? (i := 18) rfl))) (mvT hZ (hw _ (List.mem_of_getElem? (i := 19) rfl))) (notFace_of_selects (args := #[]) (mvT hZ (hw _ (List.mem_of_getElem? (i := 21) rfl)))) (mvT hZ (hw _ (List.mem_of_getElem? (i := 21) rfl))) (mvT hZ (hw _ (List.mem_of_getElem? (i := 20) rfl))) (by decide) (backOf (W := 0) (rm3 l Z a0 hw [] b19 n2 ab1 (ch.toInt8.toInt32) l2 (l1 + (11 : Int32)) _ f_n2 (own_upd (own_mix2 l1 f_n1 (fun _ => 0)) l1.toNatClampNeg (ch.toInt8.toInt32)) T55.heap n0 Zh14 Ex_60 F_57 F_58 F_59 V_62 V_64 g_b19 g_ab1 (Ne.symm ne_n2_b19) ne_b19_ab1 ne_n2_ab1 hl2 hsb hc) hZ (hw _ (List.mem_of_getElem? (i := 22) rfl)) (hw _ (List.mem_of_getElem? (i := 7) rfl)) (by decide) (by decide)) q173a q173c (g := (mkF m 117 #[.val (.int p1), .val (.int p2), .val (.int p3), .val (.int l1), .val (.int l2), .val (.int ch), .val (.int nu), .val (.ref n1), .val (.ref n2), .val (.int (ch.toInt8.toInt32)), .val (.ref b19), .val (.ref ab1), .unset, .unset, .unset, .unset] [(.ref n2), (.ref b19)])) rfl (by rw [hml]; rfl) (Steps.refl _) (argsL := [(.ref n2)]) (rest := []) (lenOf pd_0_2 rfl) rfl (by show 2 * 0 + _ ≤ _; exact Nat.le_of_eq rfl) (hb hby at_117) (fun _ _ => ⟨rfl, rfl, (by decide : 5 + 0 ≤ _), (by decide : 23 + 0 ≤ _)⟩)
    dsimp only [Pt.U, Pt.locs, Pt.cells, Pt.slots] at X173 l173 y173 z173 st173 hQ173
    subst l173 y173 z173
    obtain ⟨rfl, N173q, K173, Fb173, Fs173, Fn173, V173⟩ := hQ173
    have N173 := Fr.app N55 N173q
    have pre174 : own_Go p e below (s₁.setTop (entryFrame m #[(.int p1), (.int p2), (.int p3)] maxLocals)) (T173.setTop (mkF m 120 #[.val (.int p1), .val (.int p2), .val (.int p3), .val (.int l1), .val (.int l2), .val (.int ch), .val (.int nu), .val (.ref n1), .val (.ref n2), .val (.int (ch.toInt8.toInt32)), .val (.ref b19), .val (.ref ab1), .unset, .unset, .unset, .unset] [])) := fun t k => pre69 t (st173.trans k)
    have Ex_175 := Ex_60.keep K173
    have V_176 := V_61.keep K173 (ninS ne_n1_b19 (ninS ne_n1_ab1 nin0))
    have V_177 := V_62.keep K173 (ninS ne_n2_b19 (ninS ne_n2_ab1 nin0))
    have V_178 := V_63.keep K173 (ninS (Ne.symm ne_b19_ab0) (ninS ne_ab0_ab1 nin0))
    have K_179 := K_65.trans K173 (allS (Or.inr sz_b19) (allS (Or.inr sz_ab1) all0))
    have Zh15 : n0 ≤ T173.heap.size := Nat.le_trans Z0 K_179.1
    have pre180 : own_Go p e below (s₁.setTop (entryFrame m #[(.int p1), (.int p2), (.int p3)] maxLocals)) (T173.setTop (mkF m 122 #[.val (.int p1), .val (.int p2), .val (.int p3), .val (.int l1), .val (.int l2), .val (.int ch), .val (.int nu), .val (.ref n1), .val (.ref n2), .val (.int (ch.toInt8.toInt32)), .val (.ref b19), .val (.ref ab1), .unset, .unset, .unset, .unset] [(.ref b19)])) := fun t k => pre174 t (by
        show Steps p.tables e below (T173.setTop (mkF m 120 #[.val (.int p1), .val (.int p2), .val (.int p3), .val (.int l1), .val (.int l2), .val (.int ch), .val (.int nu), .val (.ref n1), .val (.ref n2), .val (.int (ch.toInt8.toInt32)), .val (.ref b19), .val (.ref ab1), .unset, .unset, .unset, .unset] [])) _
        refine XS.aload X173.here hx rfl (hb hby at_120) rfl rfl ?_
        exact k)
    obtain ⟨cq181, kq181, q181a, q181b, q181c⟩ := isOf hZ rfl Ex_175
    obtain ⟨_, _, ⟨T181, L181, k181, n181⟩, -, X181, ⟨Lc181, hQ181, l181, y181, z181⟩, st181⟩ := X173.virtualBack hx (y := (⟨"com/example/gyre/gyre/NodeLabel", "bytes", "()[B"⟩ : MethodName)) (z := (⟨"com/example/gyre/gyre/NodeLabel", "bytes", "()[B"⟩ : MethodName)) hown (mvT hZ (hw _ (List.mem_of_getElem? (i := 29) rfl))) (mvT hZ (hw _ (List.mem_of_getElem? (i := 30) rfl))) (notFace_of_selects (args := #[]) (mvT hZ (hw _ (List.mem_of_getElem? (i := 32) rfl)))) (mvT hZ (hw _ (List.mem_of_getElem? (i := 32) rfl))) (mvT hZ (hw _ (List.mem_of_getElem? (i := 31) rfl))) (by decide) (backOf (W := 0) (rm4 l Z a0 hw [] b19 ab1 T173.heap n0 Zh15 Fb173) hZ (hw _ (List.mem_of_getElem? (i := 33) rfl)) (hw _ (List.mem_of_getElem? (i := 7) rfl)) (by decide) (by decide)) q181a q181c (g := (mkF m 122 #[.val (.int p1), .val (.int p2), .val (.int p3), .val (.int l1), .val (.int l2), .val (.int ch), .val (.int nu), .val (.ref n1), .val (.ref n2), .val (.int (ch.toInt8.toInt32)), .val (.ref b19), .val (.ref ab1), .unset, .unset, .unset, .unset] [(.ref b19)])) rfl (by rw [hml]; rfl) (Steps.refl _) (argsL := []) (rest := []) (lenOf pd_0_3 rfl) rfl (by show 2 * 0 + _ ≤ _; exact Nat.le_of_eq rfl) (hb hby at_122) (fun _ _ => ⟨rfl, rfl, (by decide : 5 + 0 ≤ _), (by decide : 23 + 0 ≤ _)⟩)
    dsimp only [Pt.U, Pt.locs, Pt.cells, Pt.slots] at X181 l181 y181 z181 st181 hQ181
    subst l181 y181 z181
    obtain ⟨rfl, N181q, hh181⟩ := hQ181
    have N181 := Fr.app N173 N181q
    have pre182 : own_Go p e below (s₁.setTop (entryFrame m #[(.int p1), (.int p2), (.int p3)] maxLocals)) (T181.setTop (mkF m 125 #[.val (.int p1), .val (.int p2), .val (.int p3), .val (.int l1), .val (.int l2), .val (.int ch), .val (.int nu), .val (.ref n1), .val (.ref n2), .val (.int (ch.toInt8.toInt32)), .val (.ref b19), .val (.ref ab1), .unset, .unset, .unset, .unset] [(.ref ab1)])) := fun t k => pre180 t (st181.trans k)
    have F_183 := Fb173
    rw [← hh181] at F_183
    have F_184 := Fs173
    rw [← hh181] at F_184
    have F_185 := Fn173
    rw [← hh181] at F_185
    have Ex_186 := Ex_175
    rw [← hh181] at Ex_186
    have V_187 := V_176
    rw [← hh181] at V_187
    have V_188 := V_177
    rw [← hh181] at V_188
    have V_189 := V_178
    rw [← hh181] at V_189
    have V_190 := V173
    rw [← hh181] at V_190
    have K_191 := K_179
    rw [← hh181] at K_191
    have pre192 : own_Go p e below (s₁.setTop (entryFrame m #[(.int p1), (.int p2), (.int p3)] maxLocals)) (T181.setTop (mkF m 134 #[.val (.int p1), .val (.int p2), .val (.int p3), .val (.int l1), .val (.int l2), .val (.int ch), .val (.int nu), .val (.ref n1), .val (.ref n2), .val (.int (ch.toInt8.toInt32)), .val (.ref b19), .val (.ref ab1), .val (.ref ab1), .unset, .unset, .unset] [(.ref ab1)])) := fun t k => pre182 t (by
        show Steps p.tables e below (T181.setTop (mkF m 125 #[.val (.int p1), .val (.int p2), .val (.int p3), .val (.int l1), .val (.int l2), .val (.int ch), .val (.int nu), .val (.ref n1), .val (.ref n2), .val (.int (ch.toInt8.toInt32)), .val (.ref b19), .val (.ref ab1), .unset, .unset, .unset, .unset] [(.ref ab1)])) _
        refine XS.astore X181.here hx rfl (hb hby at_125) rfl rfl (l' := #[.val (.int p1), .val (.int p2), .val (.int p3), .val (.int l1), .val (.int l2), .val (.int ch), .val (.int nu), .val (.ref n1), .val (.ref n2), .val (.int (ch.toInt8.toInt32)), .val (.ref b19), .val (.ref ab1), .val (.ref ab1), .unset, .unset, .unset]) rfl ?_
        show Steps p.tables e below (T181.setTop (mkF m 127 #[.val (.int p1), .val (.int p2), .val (.int p3), .val (.int l1), .val (.int l2), .val (.int ch), .val (.int nu), .val (.ref n1), .val (.ref n2), .val (.int (ch.toInt8.toInt32)), .val (.ref b19), .val (.ref ab1), .val (.ref ab1), .unset, .unset, .unset] [])) _
        refine XS.aload X181.here hx rfl (hb hby at_127) rfl rfl ?_
        show Steps p.tables e below (T181.setTop (mkF m 129 #[.val (.int p1), .val (.int p2), .val (.int p3), .val (.int l1), .val (.int l2), .val (.int ch), .val (.int nu), .val (.ref n1), .val (.ref n2), .val (.int (ch.toInt8.toInt32)), .val (.ref b19), .val (.ref ab1), .val (.ref ab1), .unset, .unset, .unset] [(.ref ab1)])) _
        refine XS.ifnullNo X181.here hx rfl (hb hby at_129) rfl ?_
        show Steps p.tables e below (T181.setTop (mkF m 132 #[.val (.int p1), .val (.int p2), .val (.int p3), .val (.int l1), .val (.int l2), .val (.int ch), .val (.int nu), .val (.ref n1), .val (.ref n2), .val (.int (ch.toInt8.toInt32)), .val (.ref b19), .val (.ref ab1), .val (.ref ab1), .unset, .unset, .unset] [])) _
        refine XS.aload X181.here hx rfl (hb hby at_132) rfl rfl ?_
        exact k)
    obtain ⟨cl193, Ar193, ln193⟩ := own_A.len V_190
    have pre194 : own_Go p e below (s₁.setTop (entryFrame m #[(.int p1), (.int p2), (.int p3)] maxLocals)) (T181.setTop (mkF m 135 #[.val (.int p1), .val (.int p2), .val (.int p3), .val (.int l1), .val (.int l2), .val (.int ch), .val (.int nu), .val (.ref n1), .val (.ref n2), .val (.int (ch.toInt8.toInt32)), .val (.ref b19), .val (.ref ab1), .val (.ref ab1), .unset, .unset, .unset] [(.int (l1 + (11 : Int32)))])) := fun t k => pre192 t (X181.arraylength hx (by rw [show T181.heap = T181.heap from rfl]; exact Ar193.1) (State.isArrayOf_alike hZ.alike Ar193.2.1) (g := (mkF m 134 #[.val (.int p1), .val (.int p2), .val (.int p3), .val (.int l1), .val (.int l2), .val (.int ch), .val (.int nu), .val (.ref n1), .val (.ref n2), .val (.int (ch.toInt8.toInt32)), .val (.ref b19), .val (.ref ab1), .val (.ref ab1), .unset, .unset, .unset] [(.ref ab1)])) rfl rfl (hb hby at_134) t (by rw [ln193]; exact k))
    have pre195 : own_Go p e below (s₁.setTop (entryFrame m #[(.int p1), (.int p2), (.int p3)] maxLocals)) (T181.setTop (mkF m 147 #[.val (.int p1), .val (.int p2), .val (.int p3), .val (.int l1), .val (.int l2), .val (.int ch), .val (.int nu), .val (.ref n1), .val (.ref n2), .val (.int (ch.toInt8.toInt32)), .val (.ref b19), .val (.ref ab1), .val (.ref ab1), .unset, .unset, .unset] [(.ref ab1)])) := fun t k => pre194 t (by
        show Steps p.tables e below (T181.setTop (mkF m 135 #[.val (.int p1), .val (.int p2), .val (.int p3), .val (.int l1), .val (.int l2), .val (.int ch), .val (.int nu), .val (.ref n1), .val (.ref n2), .val (.int (ch.toInt8.toInt32)), .val (.ref b19), .val (.ref ab1), .val (.ref ab1), .unset, .unset, .unset] [(.int (l1 + (11 : Int32)))])) _
        refine XS.iload X181.here hx rfl (hb hby at_135) rfl ?_
        show Steps p.tables e below (T181.setTop (mkF m 137 #[.val (.int p1), .val (.int p2), .val (.int p3), .val (.int l1), .val (.int l2), .val (.int ch), .val (.int nu), .val (.ref n1), .val (.ref n2), .val (.int (ch.toInt8.toInt32)), .val (.ref b19), .val (.ref ab1), .val (.ref ab1), .unset, .unset, .unset] [(.int l2), (.int (l1 + (11 : Int32)))])) _
        refine XS.bipush X181.here hx rfl (hb hby at_137) ?_
        show Steps p.tables e below (T181.setTop (mkF m 139 #[.val (.int p1), .val (.int p2), .val (.int p3), .val (.int l1), .val (.int l2), .val (.int ch), .val (.int nu), .val (.ref n1), .val (.ref n2), .val (.int (ch.toInt8.toInt32)), .val (.ref b19), .val (.ref ab1), .val (.ref ab1), .unset, .unset, .unset] [(.int (11 : Int32)), (.int l2), (.int (l1 + (11 : Int32)))])) _
        refine XS.iadd X181.here hx rfl (hb hby at_139) rfl ?_
        show Steps p.tables e below (T181.setTop (mkF m 140 #[.val (.int p1), .val (.int p2), .val (.int p3), .val (.int l1), .val (.int l2), .val (.int ch), .val (.int nu), .val (.ref n1), .val (.ref n2), .val (.int (ch.toInt8.toInt32)), .val (.ref b19), .val (.ref ab1), .val (.ref ab1), .unset, .unset, .unset] [(.int (l2 + (11 : Int32))), (.int (l1 + (11 : Int32)))])) _
        refine XS.icmpYes X181.here hx rfl (pc0 := 140) (pc' := 145) rfl (hb hby at_140) rfl (XT.ii_ge_t hc) (by decide) (by decide) ?_
        show Steps p.tables e below (T181.setTop (mkF m 145 #[.val (.int p1), .val (.int p2), .val (.int p3), .val (.int l1), .val (.int l2), .val (.int ch), .val (.int nu), .val (.ref n1), .val (.ref n2), .val (.int (ch.toInt8.toInt32)), .val (.ref b19), .val (.ref ab1), .val (.ref ab1), .unset, .unset, .unset] [])) _
        refine XS.aload X181.here hx rfl (hb hby at_145) rfl rfl ?_
        exact k)
    obtain ⟨cl196, Ar196, ln196⟩ := own_A.len V_190
    have pre197 : own_Go p e below (s₁.setTop (entryFrame m #[(.int p1), (.int p2), (.int p3)] maxLocals)) (T181.setTop (mkF m 148 #[.val (.int p1), .val (.int p2), .val (.int p3), .val (.int l1), .val (.int l2), .val (.int ch), .val (.int nu), .val (.ref n1), .val (.ref n2), .val (.int (ch.toInt8.toInt32)), .val (.ref b19), .val (.ref ab1), .val (.ref ab1), .unset, .unset, .unset] [(.int (l1 + (11 : Int32)))])) := fun t k => pre195 t (X181.arraylength hx (by rw [show T181.heap = T181.heap from rfl]; exact Ar196.1) (State.isArrayOf_alike hZ.alike Ar196.2.1) (g := (mkF m 147 #[.val (.int p1), .val (.int p2), .val (.int p3), .val (.int l1), .val (.int l2), .val (.int ch), .val (.int nu), .val (.ref n1), .val (.ref n2), .val (.int (ch.toInt8.toInt32)), .val (.ref b19), .val (.ref ab1), .val (.ref ab1), .unset, .unset, .unset] [(.ref ab1)])) rfl rfl (hb hby at_147) t (by rw [ln196]; exact k))
    have Zh16 : n0 ≤ T181.heap.size := Nat.le_trans Z0 K_191.1
    have pre198 : own_Go p e below (s₁.setTop (entryFrame m #[(.int p1), (.int p2), (.int p3)] maxLocals)) (T181.setTop (mkF m 171 #[.val (.int p1), .val (.int p2), .val (.int p3), .val (.int l1), .val (.int l2), .val (.int ch), .val (.int nu), .val (.ref n1), .val (.ref n2), .val (.int (ch.toInt8.toInt32)), .val (.ref b19), .val (.ref ab1), .val (.ref ab1), .unset, .unset, .unset] [(.int l2), (.ref n2), (.ref ab1)])) := fun t k => pre197 t (by
        show Steps p.tables e below (T181.setTop (mkF m 148 #[.val (.int p1), .val (.int p2), .val (.int p3), .val (.int l1), .val (.int l2), .val (.int ch), .val (.int nu), .val (.ref n1), .val (.ref n2), .val (.int (ch.toInt8.toInt32)), .val (.ref b19), .val (.ref ab1), .val (.ref ab1), .unset, .unset, .unset] [(.int (l1 + (11 : Int32)))])) _
        refine XS.iload X181.here hx rfl (hb hby at_148) rfl ?_
        show Steps p.tables e below (T181.setTop (mkF m 150 #[.val (.int p1), .val (.int p2), .val (.int p3), .val (.int l1), .val (.int l2), .val (.int ch), .val (.int nu), .val (.ref n1), .val (.ref n2), .val (.int (ch.toInt8.toInt32)), .val (.ref b19), .val (.ref ab1), .val (.ref ab1), .unset, .unset, .unset] [(.int l2), (.int (l1 + (11 : Int32)))])) _
        refine XS.bipush X181.here hx rfl (hb hby at_150) ?_
        show Steps p.tables e below (T181.setTop (mkF m 152 #[.val (.int p1), .val (.int p2), .val (.int p3), .val (.int l1), .val (.int l2), .val (.int ch), .val (.int nu), .val (.ref n1), .val (.ref n2), .val (.int (ch.toInt8.toInt32)), .val (.ref b19), .val (.ref ab1), .val (.ref ab1), .unset, .unset, .unset] [(.int (11 : Int32)), (.int l2), (.int (l1 + (11 : Int32)))])) _
        refine XS.iadd X181.here hx rfl (hb hby at_152) rfl ?_
        show Steps p.tables e below (T181.setTop (mkF m 153 #[.val (.int p1), .val (.int p2), .val (.int p3), .val (.int l1), .val (.int l2), .val (.int ch), .val (.int nu), .val (.ref n1), .val (.ref n2), .val (.int (ch.toInt8.toInt32)), .val (.ref b19), .val (.ref ab1), .val (.ref ab1), .unset, .unset, .unset] [(.int (l2 + (11 : Int32))), (.int (l1 + (11 : Int32)))])) _
        refine XS.icmpNo X181.here hx rfl (hb hby at_153) rfl (XT.ii_lt_f hc) ?_
        show Steps p.tables e below (T181.setTop (mkF m 156 #[.val (.int p1), .val (.int p2), .val (.int p3), .val (.int l1), .val (.int l2), .val (.int ch), .val (.int nu), .val (.ref n1), .val (.ref n2), .val (.int (ch.toInt8.toInt32)), .val (.ref b19), .val (.ref ab1), .val (.ref ab1), .unset, .unset, .unset] [])) _
        refine XS.aload X181.here hx rfl (hb hby at_156) rfl rfl ?_
        show Steps p.tables e below (T181.setTop (mkF m 158 #[.val (.int p1), .val (.int p2), .val (.int p3), .val (.int l1), .val (.int l2), .val (.int ch), .val (.int nu), .val (.ref n1), .val (.ref n2), .val (.int (ch.toInt8.toInt32)), .val (.ref b19), .val (.ref ab1), .val (.ref ab1), .unset, .unset, .unset] [(.ref ab1)])) _
        refine XS.aload X181.here hx rfl (hb hby at_158) rfl rfl ?_
        show Steps p.tables e below (T181.setTop (mkF m 160 #[.val (.int p1), .val (.int p2), .val (.int p3), .val (.int l1), .val (.int l2), .val (.int ch), .val (.int nu), .val (.ref n1), .val (.ref n2), .val (.int (ch.toInt8.toInt32)), .val (.ref b19), .val (.ref ab1), .val (.ref ab1), .unset, .unset, .unset] [(.ref ab1), (.ref ab1)])) _
        refine Jvm.RoadKit.acmp (g := (mkF m 160 #[.val (.int p1), .val (.int p2), .val (.int p3), .val (.int l1), .val (.int l2), .val (.int ch), .val (.int nu), .val (.ref n1), .val (.ref n2), .val (.int (ch.toInt8.toInt32)), .val (.ref b19), .val (.ref ab1), .val (.ref ab1), .unset, .unset, .unset] [(.ref ab1), (.ref ab1)])) X181 hx rfl rfl rfl (pc0 := 160) (pc' := 165) (same := true) rfl (hb hby at_160) rfl (decide_eq_true rfl) (by decide) (by decide) ?_
        show Steps p.tables e below (T181.setTop (mkF m 165 #[.val (.int p1), .val (.int p2), .val (.int p3), .val (.int l1), .val (.int l2), .val (.int ch), .val (.int nu), .val (.ref n1), .val (.ref n2), .val (.int (ch.toInt8.toInt32)), .val (.ref b19), .val (.ref ab1), .val (.ref ab1), .unset, .unset, .unset] [])) _
        refine XS.aload X181.here hx rfl (hb hby at_165) rfl rfl ?_
        show Steps p.tables e below (T181.setTop (mkF m 167 #[.val (.int p1), .val (.int p2), .val (.int p3), .val (.int l1), .val (.int l2), .val (.int ch), .val (.int nu), .val (.ref n1), .val (.ref n2), .val (.int (ch.toInt8.toInt32)), .val (.ref b19), .val (.ref ab1), .val (.ref ab1), .unset, .unset, .unset] [(.ref ab1)])) _
        refine XS.aload X181.here hx rfl (hb hby at_167) rfl rfl ?_
        show Steps p.tables e below (T181.setTop (mkF m 169 #[.val (.int p1), .val (.int p2), .val (.int p3), .val (.int l1), .val (.int l2), .val (.int ch), .val (.int nu), .val (.ref n1), .val (.ref n2), .val (.int (ch.toInt8.toInt32)), .val (.ref b19), .val (.ref ab1), .val (.ref ab1), .unset, .unset, .unset] [(.ref n2), (.ref ab1)])) _
        refine XS.iload X181.here hx rfl (hb hby at_169) rfl ?_
        exact k)
    obtain ⟨_, _, ⟨T199, L199, k199, n199⟩, -, X199, ⟨Lc199, hQ199, l199, y199, z199⟩, st199⟩ := Jvm.LawKit.callS X181 hx (y := (⟨"com/example/gyre/gyre/NodeLabelStartNodePinLaw", "prefix", "([B[BI)Z"⟩ : MethodName)) hown (mvT hZ (hw _ (List.mem_of_getElem? (i := 34) rfl))) (mvT hZ (hw _ (List.mem_of_getElem? (i := 35) rfl))) (mvT hZ (hw _ (List.mem_of_getElem? (i := 2) rfl))) (mvT hZ (hw _ (List.mem_of_getElem? (i := 36) rfl))) (by decide) (backOf (W := 0) (rm5 l Z a0 hw [] ab1 n2 l2 (l1 + (11 : Int32)) _ _ T181.heap n0 Zh16 V_190 V_188 (by omega) (fun i hi => (own_upd_miss _ _ (Nat.ne_of_lt hi)).trans (own_mix2_lo hi))) hZ (hw _ (List.mem_of_getElem? (i := 36) rfl)) (hw _ (List.mem_of_getElem? (i := 2) rfl)) (by decide) (by decide)) (g := (mkF m 171 #[.val (.int p1), .val (.int p2), .val (.int p3), .val (.int l1), .val (.int l2), .val (.int ch), .val (.int nu), .val (.ref n1), .val (.ref n2), .val (.int (ch.toInt8.toInt32)), .val (.ref b19), .val (.ref ab1), .val (.ref ab1), .unset, .unset, .unset] [(.int l2), (.ref n2), (.ref ab1)])) rfl (by rw [hml]; rfl) (argsL := [(.ref ab1), (.ref n2), (.int l2)]) (rest := []) (lenOf pd_0_4 rfl) rfl (by show 2 * 0 + _ ≤ _; exact Nat.le_of_eq rfl) (hb hby at_171) (fun _ _ => ⟨rfl, rfl, (by decide : 5 + 0 ≤ _), (by decide : 23 + 0 ≤ _)⟩)
    dsimp only [Pt.U, Pt.locs, Pt.cells, Pt.slots] at X199 l199 y199 z199 st199 hQ199
    subst l199 y199 z199
    obtain ⟨rfl, N199q, hh199⟩ := hQ199
    have N199 := Fr.app N181 N199q
    have pre200 : own_Go p e below (s₁.setTop (entryFrame m #[(.int p1), (.int p2), (.int p3)] maxLocals)) (T199.setTop (mkF m 174 #[.val (.int p1), .val (.int p2), .val (.int p3), .val (.int l1), .val (.int l2), .val (.int ch), .val (.int nu), .val (.ref n1), .val (.ref n2), .val (.int (ch.toInt8.toInt32)), .val (.ref b19), .val (.ref ab1), .val (.ref ab1), .unset, .unset, .unset] [(.int (1 : Int32))])) := fun t k => pre198 t (st199 t k)
    have F_201 := F_183
    rw [← hh199] at F_201
    have F_202 := F_184
    rw [← hh199] at F_202
    have F_203 := F_185
    rw [← hh199] at F_203
    have Ex_204 := Ex_186
    rw [← hh199] at Ex_204
    have V_205 := V_187
    rw [← hh199] at V_205
    have V_206 := V_188
    rw [← hh199] at V_206
    have V_207 := V_189
    rw [← hh199] at V_207
    have V_208 := V_190
    rw [← hh199] at V_208
    have K_209 := K_191
    rw [← hh199] at K_209
    have pre210 : own_Go p e below (s₁.setTop (entryFrame m #[(.int p1), (.int p2), (.int p3)] maxLocals)) (T199.setTop (mkF m 181 #[.val (.int p1), .val (.int p2), .val (.int p3), .val (.int l1), .val (.int l2), .val (.int ch), .val (.int nu), .val (.ref n1), .val (.ref n2), .val (.int (ch.toInt8.toInt32)), .val (.ref b19), .val (.ref ab1), .val (.ref ab1), .unset, .unset, .unset] [(.int l2), (.ref ab1)])) := fun t k => pre200 t (by
        show Steps p.tables e below (T199.setTop (mkF m 174 #[.val (.int p1), .val (.int p2), .val (.int p3), .val (.int l1), .val (.int l2), .val (.int ch), .val (.int nu), .val (.ref n1), .val (.ref n2), .val (.int (ch.toInt8.toInt32)), .val (.ref b19), .val (.ref ab1), .val (.ref ab1), .unset, .unset, .unset] [(.int (1 : Int32))])) _
        refine XS.ifNo X199.here hx rfl (hb hby at_174) rfl (XT.i0_eq_f (by decide)) ?_
        show Steps p.tables e below (T199.setTop (mkF m 177 #[.val (.int p1), .val (.int p2), .val (.int p3), .val (.int l1), .val (.int l2), .val (.int ch), .val (.int nu), .val (.ref n1), .val (.ref n2), .val (.int (ch.toInt8.toInt32)), .val (.ref b19), .val (.ref ab1), .val (.ref ab1), .unset, .unset, .unset] [])) _
        refine XS.aload X199.here hx rfl (hb hby at_177) rfl rfl ?_
        show Steps p.tables e below (T199.setTop (mkF m 179 #[.val (.int p1), .val (.int p2), .val (.int p3), .val (.int l1), .val (.int l2), .val (.int ch), .val (.int nu), .val (.ref n1), .val (.ref n2), .val (.int (ch.toInt8.toInt32)), .val (.ref b19), .val (.ref ab1), .val (.ref ab1), .unset, .unset, .unset] [(.ref ab1)])) _
        refine XS.iload X199.here hx rfl (hb hby at_179) rfl ?_
        exact k)
    obtain ⟨cl211, Ar211, hin211, hv211⟩ := own_A.at V_208 (j := l2) l2_0 (own_lt (by omega))
    have pre212 : own_Go p e below (s₁.setTop (entryFrame m #[(.int p1), (.int p2), (.int p3)] maxLocals)) (T199.setTop (mkF m 182 #[.val (.int p1), .val (.int p2), .val (.int p3), .val (.int l1), .val (.int l2), .val (.int ch), .val (.int nu), .val (.ref n1), .val (.ref n2), .val (.int (ch.toInt8.toInt32)), .val (.ref b19), .val (.ref ab1), .val (.ref ab1), .unset, .unset, .unset] [(.int (ch.toInt8.toInt32))])) := fun t k => pre210 t (X199.baloadBytes hx (j := l2) (v := .int (ch.toInt8.toInt32)) (by rw [show T199.heap = T199.heap from rfl]; exact Ar211.1) (State.isArrayOf_alike hZ.alike Ar211.2.1) Ar211.2.2 hin211 (hv211.trans (congrArg (fun z => some (Value.int z)) (own_upd_hit _ _ rfl))) (g := (mkF m 181 #[.val (.int p1), .val (.int p2), .val (.int p3), .val (.int l1), .val (.int l2), .val (.int ch), .val (.int nu), .val (.ref n1), .val (.ref n2), .val (.int (ch.toInt8.toInt32)), .val (.ref b19), .val (.ref ab1), .val (.ref ab1), .unset, .unset, .unset] [(.int l2), (.ref ab1)])) rfl rfl (hb hby at_181) t k)
    have pre213 : own_Go p e below (s₁.setTop (entryFrame m #[(.int p1), (.int p2), (.int p3)] maxLocals)) (T199.setTop (mkF m 199 #[.val (.int p1), .val (.int p2), .val (.int p3), .val (.int l1), .val (.int l2), .val (.int ch), .val (.int nu), .val (.ref n1), .val (.ref n2), .val (.int (ch.toInt8.toInt32)), .val (.ref b19), .val (.ref ab1), .val (.ref ab1), .unset, .unset, .unset] [(.int l2), (.int l1)])) := fun t k => pre212 t (by
        show Steps p.tables e below (T199.setTop (mkF m 182 #[.val (.int p1), .val (.int p2), .val (.int p3), .val (.int l1), .val (.int l2), .val (.int ch), .val (.int nu), .val (.ref n1), .val (.ref n2), .val (.int (ch.toInt8.toInt32)), .val (.ref b19), .val (.ref ab1), .val (.ref ab1), .unset, .unset, .unset] [(.int (ch.toInt8.toInt32))])) _
        refine XS.iload X199.here hx rfl (hb hby at_182) rfl ?_
        show Steps p.tables e below (T199.setTop (mkF m 184 #[.val (.int p1), .val (.int p2), .val (.int p3), .val (.int l1), .val (.int l2), .val (.int ch), .val (.int nu), .val (.ref n1), .val (.ref n2), .val (.int (ch.toInt8.toInt32)), .val (.ref b19), .val (.ref ab1), .val (.ref ab1), .unset, .unset, .unset] [(.int (ch.toInt8.toInt32)), (.int (ch.toInt8.toInt32))])) _
        refine XS.icmpYes X199.here hx rfl (pc0 := 184) (pc' := 189) rfl (hb hby at_184) rfl (XT.ii_eq_t rfl) (by decide) (by decide) ?_
        show Steps p.tables e below (T199.setTop (mkF m 189 #[.val (.int p1), .val (.int p2), .val (.int p3), .val (.int l1), .val (.int l2), .val (.int ch), .val (.int nu), .val (.ref n1), .val (.ref n2), .val (.int (ch.toInt8.toInt32)), .val (.ref b19), .val (.ref ab1), .val (.ref ab1), .unset, .unset, .unset] [])) _
        refine XS.aload X199.here hx rfl (hb hby at_189) rfl rfl ?_
        show Steps p.tables e below (T199.setTop (mkF m 191 #[.val (.int p1), .val (.int p2), .val (.int p3), .val (.int l1), .val (.int l2), .val (.int ch), .val (.int nu), .val (.ref n1), .val (.ref n2), .val (.int (ch.toInt8.toInt32)), .val (.ref b19), .val (.ref ab1), .val (.ref ab1), .unset, .unset, .unset] [(.ref ab1)])) _
        refine XS.aload X199.here hx rfl (hb hby at_191) rfl rfl ?_
        show Steps p.tables e below (T199.setTop (mkF m 193 #[.val (.int p1), .val (.int p2), .val (.int p3), .val (.int l1), .val (.int l2), .val (.int ch), .val (.int nu), .val (.ref n1), .val (.ref n2), .val (.int (ch.toInt8.toInt32)), .val (.ref b19), .val (.ref ab1), .val (.ref ab1), .unset, .unset, .unset] [(.ref ab1), (.ref ab1)])) _
        refine Jvm.RoadKit.acmp (g := (mkF m 193 #[.val (.int p1), .val (.int p2), .val (.int p3), .val (.int l1), .val (.int l2), .val (.int ch), .val (.int nu), .val (.ref n1), .val (.ref n2), .val (.int (ch.toInt8.toInt32)), .val (.ref b19), .val (.ref ab1), .val (.ref ab1), .unset, .unset, .unset] [(.ref ab1), (.ref ab1)])) X199 hx rfl rfl rfl (pc0 := 193) (pc' := 196) (same := true) rfl (hb hby at_193) rfl (decide_eq_true rfl) (by decide) (by decide) ?_
        show Steps p.tables e below (T199.setTop (mkF m 196 #[.val (.int p1), .val (.int p2), .val (.int p3), .val (.int l1), .val (.int l2), .val (.int ch), .val (.int nu), .val (.ref n1), .val (.ref n2), .val (.int (ch.toInt8.toInt32)), .val (.ref b19), .val (.ref ab1), .val (.ref ab1), .unset, .unset, .unset] [])) _
        refine XS.iloadN X199.here hx rfl (hb hby at_196) rfl ?_
        show Steps p.tables e below (T199.setTop (mkF m 197 #[.val (.int p1), .val (.int p2), .val (.int p3), .val (.int l1), .val (.int l2), .val (.int ch), .val (.int nu), .val (.ref n1), .val (.ref n2), .val (.int (ch.toInt8.toInt32)), .val (.ref b19), .val (.ref ab1), .val (.ref ab1), .unset, .unset, .unset] [(.int l1)])) _
        refine XS.iload X199.here hx rfl (hb hby at_197) rfl ?_
        exact k)
    by_cases c199_214 : l2 < l1
    · skip
      have hlt := Int32.lt_iff_toInt_lt.mp c199_214
      have hlt2 : l2.toNatClampNeg < l1.toNatClampNeg := by have q1 := nat_of l1_0; have q2 := nat_of l2_0; omega
      have pre215 : own_Go p e below (s₁.setTop (entryFrame m #[(.int p1), (.int p2), (.int p3)] maxLocals)) (T199.setTop (mkF m 205 #[.val (.int p1), .val (.int p2), .val (.int p3), .val (.int l1), .val (.int l2), .val (.int ch), .val (.int nu), .val (.ref n1), .val (.ref n2), .val (.int (ch.toInt8.toInt32)), .val (.ref b19), .val (.ref ab1), .val (.ref ab1), .unset, .unset, .unset] [(.int l1), (.ref ab1)])) := fun t k => pre213 t (by
          show Steps p.tables e below (T199.setTop (mkF m 199 #[.val (.int p1), .val (.int p2), .val (.int p3), .val (.int l1), .val (.int l2), .val (.int ch), .val (.int nu), .val (.ref n1), .val (.ref n2), .val (.int (ch.toInt8.toInt32)), .val (.ref b19), .val (.ref ab1), .val (.ref ab1), .unset, .unset, .unset] [(.int l2), (.int l1)])) _
          refine XS.icmpNo X199.here hx rfl (hb hby at_199) rfl (XT.ii_le_f c199_214) ?_
          show Steps p.tables e below (T199.setTop (mkF m 202 #[.val (.int p1), .val (.int p2), .val (.int p3), .val (.int l1), .val (.int l2), .val (.int ch), .val (.int nu), .val (.ref n1), .val (.ref n2), .val (.int (ch.toInt8.toInt32)), .val (.ref b19), .val (.ref ab1), .val (.ref ab1), .unset, .unset, .unset] [])) _
          refine XS.aload X199.here hx rfl (hb hby at_202) rfl rfl ?_
          show Steps p.tables e below (T199.setTop (mkF m 204 #[.val (.int p1), .val (.int p2), .val (.int p3), .val (.int l1), .val (.int l2), .val (.int ch), .val (.int nu), .val (.ref n1), .val (.ref n2), .val (.int (ch.toInt8.toInt32)), .val (.ref b19), .val (.ref ab1), .val (.ref ab1), .unset, .unset, .unset] [(.ref ab1)])) _
          refine XS.iloadN X199.here hx rfl (hb hby at_204) rfl ?_
          exact k)
      obtain ⟨cl216, Ar216, hin216, hv216⟩ := own_A.at V_208 (j := l1) l1_0 (own_lt (by omega))
      have pre217 : own_Go p e below (s₁.setTop (entryFrame m #[(.int p1), (.int p2), (.int p3)] maxLocals)) (T199.setTop (mkF m 206 #[.val (.int p1), .val (.int p2), .val (.int p3), .val (.int l1), .val (.int l2), .val (.int ch), .val (.int nu), .val (.ref n1), .val (.ref n2), .val (.int (ch.toInt8.toInt32)), .val (.ref b19), .val (.ref ab1), .val (.ref ab1), .unset, .unset, .unset] [(.int (ch.toInt8.toInt32))])) := fun t k => pre215 t (X199.baloadBytes hx (j := l1) (v := .int (ch.toInt8.toInt32)) (by rw [show T199.heap = T199.heap from rfl]; exact Ar216.1) (State.isArrayOf_alike hZ.alike Ar216.2.1) Ar216.2.2 hin216 (hv216.trans (congrArg (fun z => some (Value.int z)) ((own_upd_miss _ _ (Nat.ne_of_gt hlt2)).trans ((own_mix2_hi (Nat.not_lt.mpr (Nat.le_of_lt hlt2))).trans hf1)))) (g := (mkF m 205 #[.val (.int p1), .val (.int p2), .val (.int p3), .val (.int l1), .val (.int l2), .val (.int ch), .val (.int nu), .val (.ref n1), .val (.ref n2), .val (.int (ch.toInt8.toInt32)), .val (.ref b19), .val (.ref ab1), .val (.ref ab1), .unset, .unset, .unset] [(.int l1), (.ref ab1)])) rfl rfl (hb hby at_205) t k)
      have pre218 : own_Go p e below (s₁.setTop (entryFrame m #[(.int p1), (.int p2), (.int p3)] maxLocals)) (T199.setTop (mkF m 217 #[.val (.int p1), .val (.int p2), .val (.int p3), .val (.int l1), .val (.int l2), .val (.int ch), .val (.int nu), .val (.ref n1), .val (.ref n2), .val (.int (ch.toInt8.toInt32)), .val (.ref b19), .val (.ref ab1), .val (.ref ab1), .unset, .unset, .unset] [(.int nu), (.ref b19)])) := fun t k => pre217 t (by
          show Steps p.tables e below (T199.setTop (mkF m 206 #[.val (.int p1), .val (.int p2), .val (.int p3), .val (.int l1), .val (.int l2), .val (.int ch), .val (.int nu), .val (.ref n1), .val (.ref n2), .val (.int (ch.toInt8.toInt32)), .val (.ref b19), .val (.ref ab1), .val (.ref ab1), .unset, .unset, .unset] [(.int (ch.toInt8.toInt32))])) _
          refine XS.iload X199.here hx rfl (hb hby at_206) rfl ?_
          show Steps p.tables e below (T199.setTop (mkF m 208 #[.val (.int p1), .val (.int p2), .val (.int p3), .val (.int l1), .val (.int l2), .val (.int ch), .val (.int nu), .val (.ref n1), .val (.ref n2), .val (.int (ch.toInt8.toInt32)), .val (.ref b19), .val (.ref ab1), .val (.ref ab1), .unset, .unset, .unset] [(.int (ch.toInt8.toInt32)), (.int (ch.toInt8.toInt32))])) _
          refine XS.icmpYes X199.here hx rfl (pc0 := 208) (pc' := 213) rfl (hb hby at_208) rfl (XT.ii_eq_t rfl) (by decide) (by decide) ?_
          show Steps p.tables e below (T199.setTop (mkF m 213 #[.val (.int p1), .val (.int p2), .val (.int p3), .val (.int l1), .val (.int l2), .val (.int ch), .val (.int nu), .val (.ref n1), .val (.ref n2), .val (.int (ch.toInt8.toInt32)), .val (.ref b19), .val (.ref ab1), .val (.ref ab1), .unset, .unset, .unset] [])) _
          refine XS.aload X199.here hx rfl (hb hby at_213) rfl rfl ?_
          show Steps p.tables e below (T199.setTop (mkF m 215 #[.val (.int p1), .val (.int p2), .val (.int p3), .val (.int l1), .val (.int l2), .val (.int ch), .val (.int nu), .val (.ref n1), .val (.ref n2), .val (.int (ch.toInt8.toInt32)), .val (.ref b19), .val (.ref ab1), .val (.ref ab1), .unset, .unset, .unset] [(.ref b19)])) _
          refine XS.iload X199.here hx rfl (hb hby at_215) rfl ?_
          exact k)
      have nbv : (l2 + (1 : Int32)).toInt + 9 ≤ ((l1 + (11 : Int32))).toInt := by omega
      by_cases hn : nu < (10 : Int32)
      · skip
        have hn' := hn
        rw [Int32.lt_iff_toInt_lt] at hn'
        have Zh17 : n0 ≤ T199.heap.size := Nat.le_trans Z0 K_209.1
        obtain ⟨cq219, kq219, q219a, q219b, q219c⟩ := isOf hZ rfl Ex_204
        obtain ⟨_, _, ⟨T219, L219, k219, n219⟩, -, X219, ⟨Lc219, hQ219, l219, y219, z219⟩, st219⟩ := X199.virtualBack hx (y := (⟨"com/example/gyre/gyre/NodeLabel", "withNumber", "(I)I"⟩ : MethodName)) (z := (⟨"com/example/gyre/gyre/NodeLabel", "withNumber", "(I)I"⟩ : MethodName)) hown (mvT hZ (hw _ (List.mem_of_getElem? (i := 37) rfl))) (mvT hZ (hw _ (List.mem_of_getElem? (i := 38) rfl))) (notFace_of_selects (args := #[]) (mvT hZ (hw _ (List.mem_of_getElem? (i := 40) rfl)))) (mvT hZ (hw _ (List.mem_of_getElem? (i := 40) rfl))) (mvT hZ (hw _ (List.mem_of_getElem? (i := 39) rfl))) (by decide) (backOf (W := 0) (rm6 l Z a0 hw [] b19 ab1 nu (l2 + (1 : Int32)) (l1 + (11 : Int32)) _ T199.heap n0 Zh17 F_201 F_203 V_208 g_ab1 ne_b19_ab1 ⟨by omega, by omega⟩ ⟨by omega, by omega⟩ (by omega)) hZ (hw _ (List.mem_of_getElem? (i := 41) rfl)) (hw _ (List.mem_of_getElem? (i := 7) rfl)) (by decide) (by decide)) q219a q219c (g := (mkF m 217 #[.val (.int p1), .val (.int p2), .val (.int p3), .val (.int l1), .val (.int l2), .val (.int ch), .val (.int nu), .val (.ref n1), .val (.ref n2), .val (.int (ch.toInt8.toInt32)), .val (.ref b19), .val (.ref ab1), .val (.ref ab1), .unset, .unset, .unset] [(.int nu), (.ref b19)])) rfl (by rw [hml]; rfl) (Steps.refl _) (argsL := [(.int nu)]) (rest := []) (lenOf pd_0_5 rfl) rfl (by show 2 * 0 + _ ≤ _; exact Nat.le_of_eq rfl) (hb hby at_217) (fun _ _ => ⟨rfl, rfl, (by decide : 5 + 0 ≤ _), (by decide : 23 + 0 ≤ _)⟩)
        dsimp only [Pt.U, Pt.locs, Pt.cells, Pt.slots] at X219 l219 y219 z219 st219 hQ219
        subst l219 y219 z219
        obtain ⟨rfl, N219q, K219, V219⟩ := hQ219
        have N219 := Fr.app N199 N219q
        have pre220 : own_Go p e below (s₁.setTop (entryFrame m #[(.int p1), (.int p2), (.int p3)] maxLocals)) (T219.setTop (mkF m 220 #[.val (.int p1), .val (.int p2), .val (.int p3), .val (.int l1), .val (.int l2), .val (.int ch), .val (.int nu), .val (.ref n1), .val (.ref n2), .val (.int (ch.toInt8.toInt32)), .val (.ref b19), .val (.ref ab1), .val (.ref ab1), .unset, .unset, .unset] [(.int ((l2 + (1 : Int32)) + (1 : Int32)))])) := fun t k => pre218 t (st219.trans k)
        have F_221 := F_201.keep K219 (ninS ne_b19_ab1 nin0)
        have F_222 := F_202.keep K219 (ninS ne_b19_ab1 nin0)
        have F_223 := F_203.keep K219 (ninS ne_b19_ab1 nin0)
        have Ex_224 := Ex_204.keep K219
        have V_225 := V_205.keep K219 (ninS ne_n1_ab1 nin0)
        have V_226 := V_206.keep K219 (ninS ne_n2_ab1 nin0)
        have V_227 := V_207.keep K219 (ninS ne_ab0_ab1 nin0)
        have K_228 := K_209.trans K219 (allS (Or.inr sz_ab1) all0)
        have Zh18 : n0 ≤ T219.heap.size := Nat.le_trans Z0 K_228.1
        have pre229 : own_Go p e below (s₁.setTop (entryFrame m #[(.int p1), (.int p2), (.int p3)] maxLocals)) (T219.setTop (mkF m 252 #[.val (.int p1), .val (.int p2), .val (.int p3), .val (.int l1), .val (.int l2), .val (.int ch), .val (.int nu), .val (.ref n1), .val (.ref n2), .val (.int (ch.toInt8.toInt32)), .val (.ref b19), .val (.ref ab1), .val (.ref ab1), .val (.int ((l2 + (1 : Int32)) + (1 : Int32))), .val (.int (1 : Int32)), .unset] [(.ref b19)])) := fun t k => pre220 t (by
            show Steps p.tables e below (T219.setTop (mkF m 220 #[.val (.int p1), .val (.int p2), .val (.int p3), .val (.int l1), .val (.int l2), .val (.int ch), .val (.int nu), .val (.ref n1), .val (.ref n2), .val (.int (ch.toInt8.toInt32)), .val (.ref b19), .val (.ref ab1), .val (.ref ab1), .unset, .unset, .unset] [(.int ((l2 + (1 : Int32)) + (1 : Int32)))])) _
            refine XS.istore X219.here hx rfl (hb hby at_220) rfl (l' := #[.val (.int p1), .val (.int p2), .val (.int p3), .val (.int l1), .val (.int l2), .val (.int ch), .val (.int nu), .val (.ref n1), .val (.ref n2), .val (.int (ch.toInt8.toInt32)), .val (.ref b19), .val (.ref ab1), .val (.ref ab1), .val (.int ((l2 + (1 : Int32)) + (1 : Int32))), .unset, .unset]) rfl ?_
            show Steps p.tables e below (T219.setTop (mkF m 222 #[.val (.int p1), .val (.int p2), .val (.int p3), .val (.int l1), .val (.int l2), .val (.int ch), .val (.int nu), .val (.ref n1), .val (.ref n2), .val (.int (ch.toInt8.toInt32)), .val (.ref b19), .val (.ref ab1), .val (.ref ab1), .val (.int ((l2 + (1 : Int32)) + (1 : Int32))), .unset, .unset] [])) _
            refine XS.iload X219.here hx rfl (hb hby at_222) rfl ?_
            show Steps p.tables e below (T219.setTop (mkF m 224 #[.val (.int p1), .val (.int p2), .val (.int p3), .val (.int l1), .val (.int l2), .val (.int ch), .val (.int nu), .val (.ref n1), .val (.ref n2), .val (.int (ch.toInt8.toInt32)), .val (.ref b19), .val (.ref ab1), .val (.ref ab1), .val (.int ((l2 + (1 : Int32)) + (1 : Int32))), .unset, .unset] [(.int nu)])) _
            refine XS.bipush X219.here hx rfl (hb hby at_224) ?_
            show Steps p.tables e below (T219.setTop (mkF m 226 #[.val (.int p1), .val (.int p2), .val (.int p3), .val (.int l1), .val (.int l2), .val (.int ch), .val (.int nu), .val (.ref n1), .val (.ref n2), .val (.int (ch.toInt8.toInt32)), .val (.ref b19), .val (.ref ab1), .val (.ref ab1), .val (.int ((l2 + (1 : Int32)) + (1 : Int32))), .unset, .unset] [(.int (10 : Int32)), (.int nu)])) _
            refine XS.icmpNo X219.here hx rfl (hb hby at_226) rfl (XT.ii_ge_f hn) ?_
            show Steps p.tables e below (T219.setTop (mkF m 229 #[.val (.int p1), .val (.int p2), .val (.int p3), .val (.int l1), .val (.int l2), .val (.int ch), .val (.int nu), .val (.ref n1), .val (.ref n2), .val (.int (ch.toInt8.toInt32)), .val (.ref b19), .val (.ref ab1), .val (.ref ab1), .val (.int ((l2 + (1 : Int32)) + (1 : Int32))), .unset, .unset] [])) _
            refine XS.iconst X219.here hx rfl (hb hby at_229) ?_
            show Steps p.tables e below (T219.setTop (mkF m 230 #[.val (.int p1), .val (.int p2), .val (.int p3), .val (.int l1), .val (.int l2), .val (.int ch), .val (.int nu), .val (.ref n1), .val (.ref n2), .val (.int (ch.toInt8.toInt32)), .val (.ref b19), .val (.ref ab1), .val (.ref ab1), .val (.int ((l2 + (1 : Int32)) + (1 : Int32))), .unset, .unset] [(.int (1 : Int32))])) _
            refine XS.goto X219.here hx rfl (pc0 := 230) (pc' := 234) rfl (hb hby at_230) (by decide) (by decide) ?_
            show Steps p.tables e below (T219.setTop (mkF m 234 #[.val (.int p1), .val (.int p2), .val (.int p3), .val (.int l1), .val (.int l2), .val (.int ch), .val (.int nu), .val (.ref n1), .val (.ref n2), .val (.int (ch.toInt8.toInt32)), .val (.ref b19), .val (.ref ab1), .val (.ref ab1), .val (.int ((l2 + (1 : Int32)) + (1 : Int32))), .unset, .unset] [(.int (1 : Int32))])) _
            refine XS.istore X219.here hx rfl (hb hby at_234) rfl (l' := #[.val (.int p1), .val (.int p2), .val (.int p3), .val (.int l1), .val (.int l2), .val (.int ch), .val (.int nu), .val (.ref n1), .val (.ref n2), .val (.int (ch.toInt8.toInt32)), .val (.ref b19), .val (.ref ab1), .val (.ref ab1), .val (.int ((l2 + (1 : Int32)) + (1 : Int32))), .val (.int (1 : Int32)), .unset]) rfl ?_
            show Steps p.tables e below (T219.setTop (mkF m 236 #[.val (.int p1), .val (.int p2), .val (.int p3), .val (.int l1), .val (.int l2), .val (.int ch), .val (.int nu), .val (.ref n1), .val (.ref n2), .val (.int (ch.toInt8.toInt32)), .val (.ref b19), .val (.ref ab1), .val (.ref ab1), .val (.int ((l2 + (1 : Int32)) + (1 : Int32))), .val (.int (1 : Int32)), .unset] [])) _
            refine XS.iload X219.here hx rfl (hb hby at_236) rfl ?_
            show Steps p.tables e below (T219.setTop (mkF m 238 #[.val (.int p1), .val (.int p2), .val (.int p3), .val (.int l1), .val (.int l2), .val (.int ch), .val (.int nu), .val (.ref n1), .val (.ref n2), .val (.int (ch.toInt8.toInt32)), .val (.ref b19), .val (.ref ab1), .val (.ref ab1), .val (.int ((l2 + (1 : Int32)) + (1 : Int32))), .val (.int (1 : Int32)), .unset] [(.int ((l2 + (1 : Int32)) + (1 : Int32)))])) _
            refine XS.iload X219.here hx rfl (hb hby at_238) rfl ?_
            show Steps p.tables e below (T219.setTop (mkF m 240 #[.val (.int p1), .val (.int p2), .val (.int p3), .val (.int l1), .val (.int l2), .val (.int ch), .val (.int nu), .val (.ref n1), .val (.ref n2), .val (.int (ch.toInt8.toInt32)), .val (.ref b19), .val (.ref ab1), .val (.ref ab1), .val (.int ((l2 + (1 : Int32)) + (1 : Int32))), .val (.int (1 : Int32)), .unset] [(.int l2), (.int ((l2 + (1 : Int32)) + (1 : Int32)))])) _
            refine XS.iconst X219.here hx rfl (hb hby at_240) ?_
            show Steps p.tables e below (T219.setTop (mkF m 241 #[.val (.int p1), .val (.int p2), .val (.int p3), .val (.int l1), .val (.int l2), .val (.int ch), .val (.int nu), .val (.ref n1), .val (.ref n2), .val (.int (ch.toInt8.toInt32)), .val (.ref b19), .val (.ref ab1), .val (.ref ab1), .val (.int ((l2 + (1 : Int32)) + (1 : Int32))), .val (.int (1 : Int32)), .unset] [(.int (1 : Int32)), (.int l2), (.int ((l2 + (1 : Int32)) + (1 : Int32)))])) _
            refine XS.iadd X219.here hx rfl (hb hby at_241) rfl ?_
            show Steps p.tables e below (T219.setTop (mkF m 242 #[.val (.int p1), .val (.int p2), .val (.int p3), .val (.int l1), .val (.int l2), .val (.int ch), .val (.int nu), .val (.ref n1), .val (.ref n2), .val (.int (ch.toInt8.toInt32)), .val (.ref b19), .val (.ref ab1), .val (.ref ab1), .val (.int ((l2 + (1 : Int32)) + (1 : Int32))), .val (.int (1 : Int32)), .unset] [(.int (l2 + (1 : Int32))), (.int ((l2 + (1 : Int32)) + (1 : Int32)))])) _
            refine XS.iload X219.here hx rfl (hb hby at_242) rfl ?_
            show Steps p.tables e below (T219.setTop (mkF m 244 #[.val (.int p1), .val (.int p2), .val (.int p3), .val (.int l1), .val (.int l2), .val (.int ch), .val (.int nu), .val (.ref n1), .val (.ref n2), .val (.int (ch.toInt8.toInt32)), .val (.ref b19), .val (.ref ab1), .val (.ref ab1), .val (.int ((l2 + (1 : Int32)) + (1 : Int32))), .val (.int (1 : Int32)), .unset] [(.int (1 : Int32)), (.int (l2 + (1 : Int32))), (.int ((l2 + (1 : Int32)) + (1 : Int32)))])) _
            refine XS.iadd X219.here hx rfl (hb hby at_244) rfl ?_
            show Steps p.tables e below (T219.setTop (mkF m 245 #[.val (.int p1), .val (.int p2), .val (.int p3), .val (.int l1), .val (.int l2), .val (.int ch), .val (.int nu), .val (.ref n1), .val (.ref n2), .val (.int (ch.toInt8.toInt32)), .val (.ref b19), .val (.ref ab1), .val (.ref ab1), .val (.int ((l2 + (1 : Int32)) + (1 : Int32))), .val (.int (1 : Int32)), .unset] [(.int ((l2 + (1 : Int32)) + (1 : Int32))), (.int ((l2 + (1 : Int32)) + (1 : Int32)))])) _
            refine XS.icmpYes X219.here hx rfl (pc0 := 245) (pc' := 250) rfl (hb hby at_245) rfl (XT.ii_eq_t rfl) (by decide) (by decide) ?_
            show Steps p.tables e below (T219.setTop (mkF m 250 #[.val (.int p1), .val (.int p2), .val (.int p3), .val (.int l1), .val (.int l2), .val (.int ch), .val (.int nu), .val (.ref n1), .val (.ref n2), .val (.int (ch.toInt8.toInt32)), .val (.ref b19), .val (.ref ab1), .val (.ref ab1), .val (.int ((l2 + (1 : Int32)) + (1 : Int32))), .val (.int (1 : Int32)), .unset] [])) _
            refine XS.aload X219.here hx rfl (hb hby at_250) rfl rfl ?_
            exact k)
        obtain ⟨cq230, kq230, q230a, q230b, q230c⟩ := isOf hZ rfl Ex_224
        obtain ⟨_, _, ⟨T230, L230, k230, n230⟩, -, X230, ⟨Lc230, hQ230, l230, y230, z230⟩, st230⟩ := X219.virtualBack hx (y := (⟨"com/example/gyre/gyre/NodeLabel", "bytes", "()[B"⟩ : MethodName)) (z := (⟨"com/example/gyre/gyre/NodeLabel", "bytes", "()[B"⟩ : MethodName)) hown (mvT hZ (hw _ (List.mem_of_getElem? (i := 29) rfl))) (mvT hZ (hw _ (List.mem_of_getElem? (i := 30) rfl))) (notFace_of_selects (args := #[]) (mvT hZ (hw _ (List.mem_of_getElem? (i := 32) rfl)))) (mvT hZ (hw _ (List.mem_of_getElem? (i := 32) rfl))) (mvT hZ (hw _ (List.mem_of_getElem? (i := 31) rfl))) (by decide) (backOf (W := 0) (rm4 l Z a0 hw [] b19 ab1 T219.heap n0 Zh18 F_221) hZ (hw _ (List.mem_of_getElem? (i := 33) rfl)) (hw _ (List.mem_of_getElem? (i := 7) rfl)) (by decide) (by decide)) q230a q230c (g := (mkF m 252 #[.val (.int p1), .val (.int p2), .val (.int p3), .val (.int l1), .val (.int l2), .val (.int ch), .val (.int nu), .val (.ref n1), .val (.ref n2), .val (.int (ch.toInt8.toInt32)), .val (.ref b19), .val (.ref ab1), .val (.ref ab1), .val (.int ((l2 + (1 : Int32)) + (1 : Int32))), .val (.int (1 : Int32)), .unset] [(.ref b19)])) rfl (by rw [hml]; rfl) (Steps.refl _) (argsL := []) (rest := []) (lenOf pd_0_3 rfl) rfl (by show 2 * 0 + _ ≤ _; exact Nat.le_of_eq rfl) (hb hby at_252) (fun _ _ => ⟨rfl, rfl, (by decide : 5 + 0 ≤ _), (by decide : 23 + 0 ≤ _)⟩)
        dsimp only [Pt.U, Pt.locs, Pt.cells, Pt.slots] at X230 l230 y230 z230 st230 hQ230
        subst l230 y230 z230
        obtain ⟨rfl, N230q, hh230⟩ := hQ230
        have N230 := Fr.app N219 N230q
        have pre231 : own_Go p e below (s₁.setTop (entryFrame m #[(.int p1), (.int p2), (.int p3)] maxLocals)) (T230.setTop (mkF m 255 #[.val (.int p1), .val (.int p2), .val (.int p3), .val (.int l1), .val (.int l2), .val (.int ch), .val (.int nu), .val (.ref n1), .val (.ref n2), .val (.int (ch.toInt8.toInt32)), .val (.ref b19), .val (.ref ab1), .val (.ref ab1), .val (.int ((l2 + (1 : Int32)) + (1 : Int32))), .val (.int (1 : Int32)), .unset] [(.ref ab1)])) := fun t k => pre229 t (st230.trans k)
        have F_232 := F_221
        rw [← hh230] at F_232
        have F_233 := F_222
        rw [← hh230] at F_233
        have F_234 := F_223
        rw [← hh230] at F_234
        have Ex_235 := Ex_224
        rw [← hh230] at Ex_235
        have V_236 := V_225
        rw [← hh230] at V_236
        have V_237 := V_226
        rw [← hh230] at V_237
        have V_238 := V_227
        rw [← hh230] at V_238
        have V_239 := V219
        rw [← hh230] at V_239
        have K_240 := K_228
        rw [← hh230] at K_240
        have pre241 : own_Go p e below (s₁.setTop (entryFrame m #[(.int p1), (.int p2), (.int p3)] maxLocals)) (T230.setTop (mkF m 279 #[.val (.int p1), .val (.int p2), .val (.int p3), .val (.int l1), .val (.int l2), .val (.int ch), .val (.int nu), .val (.ref n1), .val (.ref n2), .val (.int (ch.toInt8.toInt32)), .val (.ref b19), .val (.ref ab1), .val (.ref ab1), .val (.int ((l2 + (1 : Int32)) + (1 : Int32))), .val (.int (1 : Int32)), .val (.ref ab1)] [(.int (l2 + (1 : Int32))), (.ref ab1)])) := fun t k => pre231 t (by
            show Steps p.tables e below (T230.setTop (mkF m 255 #[.val (.int p1), .val (.int p2), .val (.int p3), .val (.int l1), .val (.int l2), .val (.int ch), .val (.int nu), .val (.ref n1), .val (.ref n2), .val (.int (ch.toInt8.toInt32)), .val (.ref b19), .val (.ref ab1), .val (.ref ab1), .val (.int ((l2 + (1 : Int32)) + (1 : Int32))), .val (.int (1 : Int32)), .unset] [(.ref ab1)])) _
            refine XS.astore X230.here hx rfl (hb hby at_255) rfl rfl (l' := #[.val (.int p1), .val (.int p2), .val (.int p3), .val (.int l1), .val (.int l2), .val (.int ch), .val (.int nu), .val (.ref n1), .val (.ref n2), .val (.int (ch.toInt8.toInt32)), .val (.ref b19), .val (.ref ab1), .val (.ref ab1), .val (.int ((l2 + (1 : Int32)) + (1 : Int32))), .val (.int (1 : Int32)), .val (.ref ab1)]) rfl ?_
            show Steps p.tables e below (T230.setTop (mkF m 257 #[.val (.int p1), .val (.int p2), .val (.int p3), .val (.int l1), .val (.int l2), .val (.int ch), .val (.int nu), .val (.ref n1), .val (.ref n2), .val (.int (ch.toInt8.toInt32)), .val (.ref b19), .val (.ref ab1), .val (.ref ab1), .val (.int ((l2 + (1 : Int32)) + (1 : Int32))), .val (.int (1 : Int32)), .val (.ref ab1)] [])) _
            refine XS.aload X230.here hx rfl (hb hby at_257) rfl rfl ?_
            show Steps p.tables e below (T230.setTop (mkF m 259 #[.val (.int p1), .val (.int p2), .val (.int p3), .val (.int l1), .val (.int l2), .val (.int ch), .val (.int nu), .val (.ref n1), .val (.ref n2), .val (.int (ch.toInt8.toInt32)), .val (.ref b19), .val (.ref ab1), .val (.ref ab1), .val (.int ((l2 + (1 : Int32)) + (1 : Int32))), .val (.int (1 : Int32)), .val (.ref ab1)] [(.ref ab1)])) _
            refine XS.aload X230.here hx rfl (hb hby at_259) rfl rfl ?_
            show Steps p.tables e below (T230.setTop (mkF m 261 #[.val (.int p1), .val (.int p2), .val (.int p3), .val (.int l1), .val (.int l2), .val (.int ch), .val (.int nu), .val (.ref n1), .val (.ref n2), .val (.int (ch.toInt8.toInt32)), .val (.ref b19), .val (.ref ab1), .val (.ref ab1), .val (.int ((l2 + (1 : Int32)) + (1 : Int32))), .val (.int (1 : Int32)), .val (.ref ab1)] [(.ref ab1), (.ref ab1)])) _
            refine Jvm.RoadKit.acmp (g := (mkF m 261 #[.val (.int p1), .val (.int p2), .val (.int p3), .val (.int l1), .val (.int l2), .val (.int ch), .val (.int nu), .val (.ref n1), .val (.ref n2), .val (.int (ch.toInt8.toInt32)), .val (.ref b19), .val (.ref ab1), .val (.ref ab1), .val (.int ((l2 + (1 : Int32)) + (1 : Int32))), .val (.int (1 : Int32)), .val (.ref ab1)] [(.ref ab1), (.ref ab1)])) X230 hx rfl rfl rfl (pc0 := 261) (pc' := 266) (same := true) rfl (hb hby at_261) rfl (decide_eq_true rfl) (by decide) (by decide) ?_
            show Steps p.tables e below (T230.setTop (mkF m 266 #[.val (.int p1), .val (.int p2), .val (.int p3), .val (.int l1), .val (.int l2), .val (.int ch), .val (.int nu), .val (.ref n1), .val (.ref n2), .val (.int (ch.toInt8.toInt32)), .val (.ref b19), .val (.ref ab1), .val (.ref ab1), .val (.int ((l2 + (1 : Int32)) + (1 : Int32))), .val (.int (1 : Int32)), .val (.ref ab1)] [])) _
            refine XS.iload X230.here hx rfl (hb hby at_266) rfl ?_
            show Steps p.tables e below (T230.setTop (mkF m 268 #[.val (.int p1), .val (.int p2), .val (.int p3), .val (.int l1), .val (.int l2), .val (.int ch), .val (.int nu), .val (.ref n1), .val (.ref n2), .val (.int (ch.toInt8.toInt32)), .val (.ref b19), .val (.ref ab1), .val (.ref ab1), .val (.int ((l2 + (1 : Int32)) + (1 : Int32))), .val (.int (1 : Int32)), .val (.ref ab1)] [(.int nu)])) _
            refine XS.bipush X230.here hx rfl (hb hby at_268) ?_
            show Steps p.tables e below (T230.setTop (mkF m 270 #[.val (.int p1), .val (.int p2), .val (.int p3), .val (.int l1), .val (.int l2), .val (.int ch), .val (.int nu), .val (.ref n1), .val (.ref n2), .val (.int (ch.toInt8.toInt32)), .val (.ref b19), .val (.ref ab1), .val (.ref ab1), .val (.int ((l2 + (1 : Int32)) + (1 : Int32))), .val (.int (1 : Int32)), .val (.ref ab1)] [(.int (10 : Int32)), (.int nu)])) _
            refine XS.icmpNo X230.here hx rfl (hb hby at_270) rfl (XT.ii_ge_f hn) ?_
            show Steps p.tables e below (T230.setTop (mkF m 273 #[.val (.int p1), .val (.int p2), .val (.int p3), .val (.int l1), .val (.int l2), .val (.int ch), .val (.int nu), .val (.ref n1), .val (.ref n2), .val (.int (ch.toInt8.toInt32)), .val (.ref b19), .val (.ref ab1), .val (.ref ab1), .val (.int ((l2 + (1 : Int32)) + (1 : Int32))), .val (.int (1 : Int32)), .val (.ref ab1)] [])) _
            refine XS.aload X230.here hx rfl (hb hby at_273) rfl rfl ?_
            show Steps p.tables e below (T230.setTop (mkF m 275 #[.val (.int p1), .val (.int p2), .val (.int p3), .val (.int l1), .val (.int l2), .val (.int ch), .val (.int nu), .val (.ref n1), .val (.ref n2), .val (.int (ch.toInt8.toInt32)), .val (.ref b19), .val (.ref ab1), .val (.ref ab1), .val (.int ((l2 + (1 : Int32)) + (1 : Int32))), .val (.int (1 : Int32)), .val (.ref ab1)] [(.ref ab1)])) _
            refine XS.iload X230.here hx rfl (hb hby at_275) rfl ?_
            show Steps p.tables e below (T230.setTop (mkF m 277 #[.val (.int p1), .val (.int p2), .val (.int p3), .val (.int l1), .val (.int l2), .val (.int ch), .val (.int nu), .val (.ref n1), .val (.ref n2), .val (.int (ch.toInt8.toInt32)), .val (.ref b19), .val (.ref ab1), .val (.ref ab1), .val (.int ((l2 + (1 : Int32)) + (1 : Int32))), .val (.int (1 : Int32)), .val (.ref ab1)] [(.int l2), (.ref ab1)])) _
            refine XS.iconst X230.here hx rfl (hb hby at_277) ?_
            show Steps p.tables e below (T230.setTop (mkF m 278 #[.val (.int p1), .val (.int p2), .val (.int p3), .val (.int l1), .val (.int l2), .val (.int ch), .val (.int nu), .val (.ref n1), .val (.ref n2), .val (.int (ch.toInt8.toInt32)), .val (.ref b19), .val (.ref ab1), .val (.ref ab1), .val (.int ((l2 + (1 : Int32)) + (1 : Int32))), .val (.int (1 : Int32)), .val (.ref ab1)] [(.int (1 : Int32)), (.int l2), (.ref ab1)])) _
            refine XS.iadd X230.here hx rfl (hb hby at_278) rfl ?_
            exact k)
        obtain ⟨cl242, Ar242, hin242, hv242⟩ := own_A.at V_239 (j := (l2 + (1 : Int32))) (own_n0 (by omega)) (own_lt (by omega))
        have pre243 : own_Go p e below (s₁.setTop (entryFrame m #[(.int p1), (.int p2), (.int p3)] maxLocals)) (T230.setTop (mkF m 280 #[.val (.int p1), .val (.int p2), .val (.int p3), .val (.int l1), .val (.int l2), .val (.int ch), .val (.int nu), .val (.ref n1), .val (.ref n2), .val (.int (ch.toInt8.toInt32)), .val (.ref b19), .val (.ref ab1), .val (.ref ab1), .val (.int ((l2 + (1 : Int32)) + (1 : Int32))), .val (.int (1 : Int32)), .val (.ref ab1)] [(.int (((48 : Int32) + nu).toInt8.toInt32))])) := fun t k => pre241 t (X230.baloadBytes hx (j := (l2 + (1 : Int32))) (v := .int (((48 : Int32) + nu).toInt8.toInt32)) (by rw [show T230.heap = T230.heap from rfl]; exact Ar242.1) (State.isArrayOf_alike hZ.alike Ar242.2.1) Ar242.2.2 hin242 (hv242.trans (congrArg (fun z => some (Value.int z)) ((own_upd_hit _ _ rfl).trans (own_dig1 hnu.1 (by omega))))) (g := (mkF m 279 #[.val (.int p1), .val (.int p2), .val (.int p3), .val (.int l1), .val (.int l2), .val (.int ch), .val (.int nu), .val (.ref n1), .val (.ref n2), .val (.int (ch.toInt8.toInt32)), .val (.ref b19), .val (.ref ab1), .val (.ref ab1), .val (.int ((l2 + (1 : Int32)) + (1 : Int32))), .val (.int (1 : Int32)), .val (.ref ab1)] [(.int (l2 + (1 : Int32))), (.ref ab1)])) rfl rfl (hb hby at_279) t k)
        have pre244 : own_Go p e below (s₁.setTop (entryFrame m #[(.int p1), (.int p2), (.int p3)] maxLocals)) (T230.setTop (mkF m 294 #[.val (.int p1), .val (.int p2), .val (.int p3), .val (.int l1), .val (.int l2), .val (.int ch), .val (.int nu), .val (.ref n1), .val (.ref n2), .val (.int (ch.toInt8.toInt32)), .val (.ref b19), .val (.ref ab1), .val (.ref ab1), .val (.int ((l2 + (1 : Int32)) + (1 : Int32))), .val (.int (1 : Int32)), .val (.ref ab1)] [(.int (1 : Int32))])) := fun t k => pre243 t (by
            show Steps p.tables e below (T230.setTop (mkF m 280 #[.val (.int p1), .val (.int p2), .val (.int p3), .val (.int l1), .val (.int l2), .val (.int ch), .val (.int nu), .val (.ref n1), .val (.ref n2), .val (.int (ch.toInt8.toInt32)), .val (.ref b19), .val (.ref ab1), .val (.ref ab1), .val (.int ((l2 + (1 : Int32)) + (1 : Int32))), .val (.int (1 : Int32)), .val (.ref ab1)] [(.int (((48 : Int32) + nu).toInt8.toInt32))])) _
            refine XS.bipush X230.here hx rfl (hb hby at_280) ?_
            show Steps p.tables e below (T230.setTop (mkF m 282 #[.val (.int p1), .val (.int p2), .val (.int p3), .val (.int l1), .val (.int l2), .val (.int ch), .val (.int nu), .val (.ref n1), .val (.ref n2), .val (.int (ch.toInt8.toInt32)), .val (.ref b19), .val (.ref ab1), .val (.ref ab1), .val (.int ((l2 + (1 : Int32)) + (1 : Int32))), .val (.int (1 : Int32)), .val (.ref ab1)] [(.int (48 : Int32)), (.int (((48 : Int32) + nu).toInt8.toInt32))])) _
            refine XS.iload X230.here hx rfl (hb hby at_282) rfl ?_
            show Steps p.tables e below (T230.setTop (mkF m 284 #[.val (.int p1), .val (.int p2), .val (.int p3), .val (.int l1), .val (.int l2), .val (.int ch), .val (.int nu), .val (.ref n1), .val (.ref n2), .val (.int (ch.toInt8.toInt32)), .val (.ref b19), .val (.ref ab1), .val (.ref ab1), .val (.int ((l2 + (1 : Int32)) + (1 : Int32))), .val (.int (1 : Int32)), .val (.ref ab1)] [(.int nu), (.int (48 : Int32)), (.int (((48 : Int32) + nu).toInt8.toInt32))])) _
            refine XS.iadd X230.here hx rfl (hb hby at_284) rfl ?_
            show Steps p.tables e below (T230.setTop (mkF m 285 #[.val (.int p1), .val (.int p2), .val (.int p3), .val (.int l1), .val (.int l2), .val (.int ch), .val (.int nu), .val (.ref n1), .val (.ref n2), .val (.int (ch.toInt8.toInt32)), .val (.ref b19), .val (.ref ab1), .val (.ref ab1), .val (.int ((l2 + (1 : Int32)) + (1 : Int32))), .val (.int (1 : Int32)), .val (.ref ab1)] [(.int ((48 : Int32) + nu)), (.int (((48 : Int32) + nu).toInt8.toInt32))])) _
            refine XT.i2b X230.here hx rfl (hb hby at_285) rfl ?_
            show Steps p.tables e below (T230.setTop (mkF m 286 #[.val (.int p1), .val (.int p2), .val (.int p3), .val (.int l1), .val (.int l2), .val (.int ch), .val (.int nu), .val (.ref n1), .val (.ref n2), .val (.int (ch.toInt8.toInt32)), .val (.ref b19), .val (.ref ab1), .val (.ref ab1), .val (.int ((l2 + (1 : Int32)) + (1 : Int32))), .val (.int (1 : Int32)), .val (.ref ab1)] [(.int (((48 : Int32) + nu).toInt8.toInt32)), (.int (((48 : Int32) + nu).toInt8.toInt32))])) _
            refine XS.icmpNo X230.here hx rfl (hb hby at_286) rfl (XT.ii_ne_f rfl) ?_
            show Steps p.tables e below (T230.setTop (mkF m 289 #[.val (.int p1), .val (.int p2), .val (.int p3), .val (.int l1), .val (.int l2), .val (.int ch), .val (.int nu), .val (.ref n1), .val (.ref n2), .val (.int (ch.toInt8.toInt32)), .val (.ref b19), .val (.ref ab1), .val (.ref ab1), .val (.int ((l2 + (1 : Int32)) + (1 : Int32))), .val (.int (1 : Int32)), .val (.ref ab1)] [])) _
            refine XS.iconst X230.here hx rfl (hb hby at_289) ?_
            show Steps p.tables e below (T230.setTop (mkF m 290 #[.val (.int p1), .val (.int p2), .val (.int p3), .val (.int l1), .val (.int l2), .val (.int ch), .val (.int nu), .val (.ref n1), .val (.ref n2), .val (.int (ch.toInt8.toInt32)), .val (.ref b19), .val (.ref ab1), .val (.ref ab1), .val (.int ((l2 + (1 : Int32)) + (1 : Int32))), .val (.int (1 : Int32)), .val (.ref ab1)] [(.int (1 : Int32))])) _
            refine XS.goto X230.here hx rfl (pc0 := 290) (pc' := 294) rfl (hb hby at_290) (by decide) (by decide) ?_
            exact k)
        obtain ⟨fs, hr, hrun, hended, hW, hsame⟩ := X230.leave (v := some (.int (1 : Int32))) (fun h => by rw [Bd.returns] at h; cases h)
        refine ⟨_, _, pre244 _ ?_, hrun, hended, _, _, rfl, ?_, ⟨_, rfl⟩, hW, hsame.mono (by decide) (by decide)⟩
        · show Steps p.tables e below (T230.setTop (mkF m 294 #[.val (.int p1), .val (.int p2), .val (.int p3), .val (.int l1), .val (.int l2), .val (.int ch), .val (.int nu), .val (.ref n1), .val (.ref n2), .val (.int (ch.toInt8.toInt32)), .val (.ref b19), .val (.ref ab1), .val (.ref ab1), .val (.int ((l2 + (1 : Int32)) + (1 : Int32))), .val (.int (1 : Int32)), .val (.ref ab1)] [(.int (1 : Int32))])) _
          exact retN X230 hx (t := .boolean) Bd.returns (by simp) (hb hby at_294) hr
        · show Q0 Z p1 p2 p3 h0 n0 _ T230.heap _
          exact ⟨rfl, N230⟩
      · skip
        have hn' := hn
        rw [Int32.lt_iff_toInt_lt] at hn'
        have Zh19 : n0 ≤ T199.heap.size := Nat.le_trans Z0 K_209.1
        obtain ⟨cq245, kq245, q245a, q245b, q245c⟩ := isOf hZ rfl Ex_204
        obtain ⟨_, _, ⟨T245, L245, k245, n245⟩, -, X245, ⟨Lc245, hQ245, l245, y245, z245⟩, st245⟩ := X199.virtualBack hx (y := (⟨"com/example/gyre/gyre/NodeLabel", "withNumber", "(I)I"⟩ : MethodName)) (z := (⟨"com/example/gyre/gyre/NodeLabel", "withNumber", "(I)I"⟩ : MethodName)) hown (mvT hZ (hw _ (List.mem_of_getElem? (i := 37) rfl))) (mvT hZ (hw _ (List.mem_of_getElem? (i := 38) rfl))) (notFace_of_selects (args := #[]) (mvT hZ (hw _ (List.mem_of_getElem? (i := 40) rfl)))) (mvT hZ (hw _ (List.mem_of_getElem? (i := 40) rfl))) (mvT hZ (hw _ (List.mem_of_getElem? (i := 39) rfl))) (by decide) (backOf (W := 0) (rm8 l Z a0 hw [] b19 ab1 nu (l2 + (1 : Int32)) (l1 + (11 : Int32)) _ T199.heap n0 Zh19 F_201 F_203 V_208 g_ab1 ne_b19_ab1 ⟨by omega, by omega⟩ ⟨by omega, by omega⟩ (by omega)) hZ (hw _ (List.mem_of_getElem? (i := 41) rfl)) (hw _ (List.mem_of_getElem? (i := 7) rfl)) (by decide) (by decide)) q245a q245c (g := (mkF m 217 #[.val (.int p1), .val (.int p2), .val (.int p3), .val (.int l1), .val (.int l2), .val (.int ch), .val (.int nu), .val (.ref n1), .val (.ref n2), .val (.int (ch.toInt8.toInt32)), .val (.ref b19), .val (.ref ab1), .val (.ref ab1), .unset, .unset, .unset] [(.int nu), (.ref b19)])) rfl (by rw [hml]; rfl) (Steps.refl _) (argsL := [(.int nu)]) (rest := []) (lenOf pd_0_5 rfl) rfl (by show 2 * 0 + _ ≤ _; exact Nat.le_of_eq rfl) (hb hby at_217) (fun _ _ => ⟨rfl, rfl, (by decide : 5 + 0 ≤ _), (by decide : 23 + 0 ≤ _)⟩)
        dsimp only [Pt.U, Pt.locs, Pt.cells, Pt.slots] at X245 l245 y245 z245 st245 hQ245
        subst l245 y245 z245
        obtain ⟨rfl, N245q, K245, V245⟩ := hQ245
        have N245 := Fr.app N199 N245q
        have pre246 : own_Go p e below (s₁.setTop (entryFrame m #[(.int p1), (.int p2), (.int p3)] maxLocals)) (T245.setTop (mkF m 220 #[.val (.int p1), .val (.int p2), .val (.int p3), .val (.int l1), .val (.int l2), .val (.int ch), .val (.int nu), .val (.ref n1), .val (.ref n2), .val (.int (ch.toInt8.toInt32)), .val (.ref b19), .val (.ref ab1), .val (.ref ab1), .unset, .unset, .unset] [(.int ((l2 + (1 : Int32)) + (2 : Int32)))])) := fun t k => pre218 t (st245.trans k)
        have F_247 := F_201.keep K245 (ninS ne_b19_ab1 nin0)
        have F_248 := F_202.keep K245 (ninS ne_b19_ab1 nin0)
        have F_249 := F_203.keep K245 (ninS ne_b19_ab1 nin0)
        have Ex_250 := Ex_204.keep K245
        have V_251 := V_205.keep K245 (ninS ne_n1_ab1 nin0)
        have V_252 := V_206.keep K245 (ninS ne_n2_ab1 nin0)
        have V_253 := V_207.keep K245 (ninS ne_ab0_ab1 nin0)
        have K_254 := K_209.trans K245 (allS (Or.inr sz_ab1) all0)
        have Zh20 : n0 ≤ T245.heap.size := Nat.le_trans Z0 K_254.1
        have pre255 : own_Go p e below (s₁.setTop (entryFrame m #[(.int p1), (.int p2), (.int p3)] maxLocals)) (T245.setTop (mkF m 252 #[.val (.int p1), .val (.int p2), .val (.int p3), .val (.int l1), .val (.int l2), .val (.int ch), .val (.int nu), .val (.ref n1), .val (.ref n2), .val (.int (ch.toInt8.toInt32)), .val (.ref b19), .val (.ref ab1), .val (.ref ab1), .val (.int ((l2 + (1 : Int32)) + (2 : Int32))), .val (.int (2 : Int32)), .unset] [(.ref b19)])) := fun t k => pre246 t (by
            show Steps p.tables e below (T245.setTop (mkF m 220 #[.val (.int p1), .val (.int p2), .val (.int p3), .val (.int l1), .val (.int l2), .val (.int ch), .val (.int nu), .val (.ref n1), .val (.ref n2), .val (.int (ch.toInt8.toInt32)), .val (.ref b19), .val (.ref ab1), .val (.ref ab1), .unset, .unset, .unset] [(.int ((l2 + (1 : Int32)) + (2 : Int32)))])) _
            refine XS.istore X245.here hx rfl (hb hby at_220) rfl (l' := #[.val (.int p1), .val (.int p2), .val (.int p3), .val (.int l1), .val (.int l2), .val (.int ch), .val (.int nu), .val (.ref n1), .val (.ref n2), .val (.int (ch.toInt8.toInt32)), .val (.ref b19), .val (.ref ab1), .val (.ref ab1), .val (.int ((l2 + (1 : Int32)) + (2 : Int32))), .unset, .unset]) rfl ?_
            show Steps p.tables e below (T245.setTop (mkF m 222 #[.val (.int p1), .val (.int p2), .val (.int p3), .val (.int l1), .val (.int l2), .val (.int ch), .val (.int nu), .val (.ref n1), .val (.ref n2), .val (.int (ch.toInt8.toInt32)), .val (.ref b19), .val (.ref ab1), .val (.ref ab1), .val (.int ((l2 + (1 : Int32)) + (2 : Int32))), .unset, .unset] [])) _
            refine XS.iload X245.here hx rfl (hb hby at_222) rfl ?_
            show Steps p.tables e below (T245.setTop (mkF m 224 #[.val (.int p1), .val (.int p2), .val (.int p3), .val (.int l1), .val (.int l2), .val (.int ch), .val (.int nu), .val (.ref n1), .val (.ref n2), .val (.int (ch.toInt8.toInt32)), .val (.ref b19), .val (.ref ab1), .val (.ref ab1), .val (.int ((l2 + (1 : Int32)) + (2 : Int32))), .unset, .unset] [(.int nu)])) _
            refine XS.bipush X245.here hx rfl (hb hby at_224) ?_
            show Steps p.tables e below (T245.setTop (mkF m 226 #[.val (.int p1), .val (.int p2), .val (.int p3), .val (.int l1), .val (.int l2), .val (.int ch), .val (.int nu), .val (.ref n1), .val (.ref n2), .val (.int (ch.toInt8.toInt32)), .val (.ref b19), .val (.ref ab1), .val (.ref ab1), .val (.int ((l2 + (1 : Int32)) + (2 : Int32))), .unset, .unset] [(.int (10 : Int32)), (.int nu)])) _
            refine XS.icmpYes X245.here hx rfl (pc0 := 226) (pc' := 233) rfl (hb hby at_226) rfl (XT.ii_ge_t hn) (by decide) (by decide) ?_
            show Steps p.tables e below (T245.setTop (mkF m 233 #[.val (.int p1), .val (.int p2), .val (.int p3), .val (.int l1), .val (.int l2), .val (.int ch), .val (.int nu), .val (.ref n1), .val (.ref n2), .val (.int (ch.toInt8.toInt32)), .val (.ref b19), .val (.ref ab1), .val (.ref ab1), .val (.int ((l2 + (1 : Int32)) + (2 : Int32))), .unset, .unset] [])) _
            refine XS.iconst X245.here hx rfl (hb hby at_233) ?_
            show Steps p.tables e below (T245.setTop (mkF m 234 #[.val (.int p1), .val (.int p2), .val (.int p3), .val (.int l1), .val (.int l2), .val (.int ch), .val (.int nu), .val (.ref n1), .val (.ref n2), .val (.int (ch.toInt8.toInt32)), .val (.ref b19), .val (.ref ab1), .val (.ref ab1), .val (.int ((l2 + (1 : Int32)) + (2 : Int32))), .unset, .unset] [(.int (2 : Int32))])) _
            refine XS.istore X245.here hx rfl (hb hby at_234) rfl (l' := #[.val (.int p1), .val (.int p2), .val (.int p3), .val (.int l1), .val (.int l2), .val (.int ch), .val (.int nu), .val (.ref n1), .val (.ref n2), .val (.int (ch.toInt8.toInt32)), .val (.ref b19), .val (.ref ab1), .val (.ref ab1), .val (.int ((l2 + (1 : Int32)) + (2 : Int32))), .val (.int (2 : Int32)), .unset]) rfl ?_
            show Steps p.tables e below (T245.setTop (mkF m 236 #[.val (.int p1), .val (.int p2), .val (.int p3), .val (.int l1), .val (.int l2), .val (.int ch), .val (.int nu), .val (.ref n1), .val (.ref n2), .val (.int (ch.toInt8.toInt32)), .val (.ref b19), .val (.ref ab1), .val (.ref ab1), .val (.int ((l2 + (1 : Int32)) + (2 : Int32))), .val (.int (2 : Int32)), .unset] [])) _
            refine XS.iload X245.here hx rfl (hb hby at_236) rfl ?_
            show Steps p.tables e below (T245.setTop (mkF m 238 #[.val (.int p1), .val (.int p2), .val (.int p3), .val (.int l1), .val (.int l2), .val (.int ch), .val (.int nu), .val (.ref n1), .val (.ref n2), .val (.int (ch.toInt8.toInt32)), .val (.ref b19), .val (.ref ab1), .val (.ref ab1), .val (.int ((l2 + (1 : Int32)) + (2 : Int32))), .val (.int (2 : Int32)), .unset] [(.int ((l2 + (1 : Int32)) + (2 : Int32)))])) _
            refine XS.iload X245.here hx rfl (hb hby at_238) rfl ?_
            show Steps p.tables e below (T245.setTop (mkF m 240 #[.val (.int p1), .val (.int p2), .val (.int p3), .val (.int l1), .val (.int l2), .val (.int ch), .val (.int nu), .val (.ref n1), .val (.ref n2), .val (.int (ch.toInt8.toInt32)), .val (.ref b19), .val (.ref ab1), .val (.ref ab1), .val (.int ((l2 + (1 : Int32)) + (2 : Int32))), .val (.int (2 : Int32)), .unset] [(.int l2), (.int ((l2 + (1 : Int32)) + (2 : Int32)))])) _
            refine XS.iconst X245.here hx rfl (hb hby at_240) ?_
            show Steps p.tables e below (T245.setTop (mkF m 241 #[.val (.int p1), .val (.int p2), .val (.int p3), .val (.int l1), .val (.int l2), .val (.int ch), .val (.int nu), .val (.ref n1), .val (.ref n2), .val (.int (ch.toInt8.toInt32)), .val (.ref b19), .val (.ref ab1), .val (.ref ab1), .val (.int ((l2 + (1 : Int32)) + (2 : Int32))), .val (.int (2 : Int32)), .unset] [(.int (1 : Int32)), (.int l2), (.int ((l2 + (1 : Int32)) + (2 : Int32)))])) _
            refine XS.iadd X245.here hx rfl (hb hby at_241) rfl ?_
            show Steps p.tables e below (T245.setTop (mkF m 242 #[.val (.int p1), .val (.int p2), .val (.int p3), .val (.int l1), .val (.int l2), .val (.int ch), .val (.int nu), .val (.ref n1), .val (.ref n2), .val (.int (ch.toInt8.toInt32)), .val (.ref b19), .val (.ref ab1), .val (.ref ab1), .val (.int ((l2 + (1 : Int32)) + (2 : Int32))), .val (.int (2 : Int32)), .unset] [(.int (l2 + (1 : Int32))), (.int ((l2 + (1 : Int32)) + (2 : Int32)))])) _
            refine XS.iload X245.here hx rfl (hb hby at_242) rfl ?_
            show Steps p.tables e below (T245.setTop (mkF m 244 #[.val (.int p1), .val (.int p2), .val (.int p3), .val (.int l1), .val (.int l2), .val (.int ch), .val (.int nu), .val (.ref n1), .val (.ref n2), .val (.int (ch.toInt8.toInt32)), .val (.ref b19), .val (.ref ab1), .val (.ref ab1), .val (.int ((l2 + (1 : Int32)) + (2 : Int32))), .val (.int (2 : Int32)), .unset] [(.int (2 : Int32)), (.int (l2 + (1 : Int32))), (.int ((l2 + (1 : Int32)) + (2 : Int32)))])) _
            refine XS.iadd X245.here hx rfl (hb hby at_244) rfl ?_
            show Steps p.tables e below (T245.setTop (mkF m 245 #[.val (.int p1), .val (.int p2), .val (.int p3), .val (.int l1), .val (.int l2), .val (.int ch), .val (.int nu), .val (.ref n1), .val (.ref n2), .val (.int (ch.toInt8.toInt32)), .val (.ref b19), .val (.ref ab1), .val (.ref ab1), .val (.int ((l2 + (1 : Int32)) + (2 : Int32))), .val (.int (2 : Int32)), .unset] [(.int ((l2 + (1 : Int32)) + (2 : Int32))), (.int ((l2 + (1 : Int32)) + (2 : Int32)))])) _
            refine XS.icmpYes X245.here hx rfl (pc0 := 245) (pc' := 250) rfl (hb hby at_245) rfl (XT.ii_eq_t rfl) (by decide) (by decide) ?_
            show Steps p.tables e below (T245.setTop (mkF m 250 #[.val (.int p1), .val (.int p2), .val (.int p3), .val (.int l1), .val (.int l2), .val (.int ch), .val (.int nu), .val (.ref n1), .val (.ref n2), .val (.int (ch.toInt8.toInt32)), .val (.ref b19), .val (.ref ab1), .val (.ref ab1), .val (.int ((l2 + (1 : Int32)) + (2 : Int32))), .val (.int (2 : Int32)), .unset] [])) _
            refine XS.aload X245.here hx rfl (hb hby at_250) rfl rfl ?_
            exact k)
        obtain ⟨cq256, kq256, q256a, q256b, q256c⟩ := isOf hZ rfl Ex_250
        obtain ⟨_, _, ⟨T256, L256, k256, n256⟩, -, X256, ⟨Lc256, hQ256, l256, y256, z256⟩, st256⟩ := X245.virtualBack hx (y := (⟨"com/example/gyre/gyre/NodeLabel", "bytes", "()[B"⟩ : MethodName)) (z := (⟨"com/example/gyre/gyre/NodeLabel", "bytes", "()[B"⟩ : MethodName)) hown (mvT hZ (hw _ (List.mem_of_getElem? (i := 29) rfl))) (mvT hZ (hw _ (List.mem_of_getElem? (i := 30) rfl))) (notFace_of_selects (args := #[]) (mvT hZ (hw _ (List.mem_of_getElem? (i := 32) rfl)))) (mvT hZ (hw _ (List.mem_of_getElem? (i := 32) rfl))) (mvT hZ (hw _ (List.mem_of_getElem? (i := 31) rfl))) (by decide) (backOf (W := 0) (rm4 l Z a0 hw [] b19 ab1 T245.heap n0 Zh20 F_247) hZ (hw _ (List.mem_of_getElem? (i := 33) rfl)) (hw _ (List.mem_of_getElem? (i := 7) rfl)) (by decide) (by decide)) q256a q256c (g := (mkF m 252 #[.val (.int p1), .val (.int p2), .val (.int p3), .val (.int l1), .val (.int l2), .val (.int ch), .val (.int nu), .val (.ref n1), .val (.ref n2), .val (.int (ch.toInt8.toInt32)), .val (.ref b19), .val (.ref ab1), .val (.ref ab1), .val (.int ((l2 + (1 : Int32)) + (2 : Int32))), .val (.int (2 : Int32)), .unset] [(.ref b19)])) rfl (by rw [hml]; rfl) (Steps.refl _) (argsL := []) (rest := []) (lenOf pd_0_3 rfl) rfl (by show 2 * 0 + _ ≤ _; exact Nat.le_of_eq rfl) (hb hby at_252) (fun _ _ => ⟨rfl, rfl, (by decide : 5 + 0 ≤ _), (by decide : 23 + 0 ≤ _)⟩)
        dsimp only [Pt.U, Pt.locs, Pt.cells, Pt.slots] at X256 l256 y256 z256 st256 hQ256
        subst l256 y256 z256
        obtain ⟨rfl, N256q, hh256⟩ := hQ256
        have N256 := Fr.app N245 N256q
        have pre257 : own_Go p e below (s₁.setTop (entryFrame m #[(.int p1), (.int p2), (.int p3)] maxLocals)) (T256.setTop (mkF m 255 #[.val (.int p1), .val (.int p2), .val (.int p3), .val (.int l1), .val (.int l2), .val (.int ch), .val (.int nu), .val (.ref n1), .val (.ref n2), .val (.int (ch.toInt8.toInt32)), .val (.ref b19), .val (.ref ab1), .val (.ref ab1), .val (.int ((l2 + (1 : Int32)) + (2 : Int32))), .val (.int (2 : Int32)), .unset] [(.ref ab1)])) := fun t k => pre255 t (st256.trans k)
        have F_258 := F_247
        rw [← hh256] at F_258
        have F_259 := F_248
        rw [← hh256] at F_259
        have F_260 := F_249
        rw [← hh256] at F_260
        have Ex_261 := Ex_250
        rw [← hh256] at Ex_261
        have V_262 := V_251
        rw [← hh256] at V_262
        have V_263 := V_252
        rw [← hh256] at V_263
        have V_264 := V_253
        rw [← hh256] at V_264
        have V_265 := V245
        rw [← hh256] at V_265
        have K_266 := K_254
        rw [← hh256] at K_266
        have qd1 := own_div10 (x := nu) hnu.1
        have pre267 : own_Go p e below (s₁.setTop (entryFrame m #[(.int p1), (.int p2), (.int p3)] maxLocals)) (T256.setTop (mkF m 301 #[.val (.int p1), .val (.int p2), .val (.int p3), .val (.int l1), .val (.int l2), .val (.int ch), .val (.int nu), .val (.ref n1), .val (.ref n2), .val (.int (ch.toInt8.toInt32)), .val (.ref b19), .val (.ref ab1), .val (.ref ab1), .val (.int ((l2 + (1 : Int32)) + (2 : Int32))), .val (.int (2 : Int32)), .val (.ref ab1)] [(.int (l2 + (1 : Int32))), (.ref ab1)])) := fun t k => pre257 t (by
            show Steps p.tables e below (T256.setTop (mkF m 255 #[.val (.int p1), .val (.int p2), .val (.int p3), .val (.int l1), .val (.int l2), .val (.int ch), .val (.int nu), .val (.ref n1), .val (.ref n2), .val (.int (ch.toInt8.toInt32)), .val (.ref b19), .val (.ref ab1), .val (.ref ab1), .val (.int ((l2 + (1 : Int32)) + (2 : Int32))), .val (.int (2 : Int32)), .unset] [(.ref ab1)])) _
            refine XS.astore X256.here hx rfl (hb hby at_255) rfl rfl (l' := #[.val (.int p1), .val (.int p2), .val (.int p3), .val (.int l1), .val (.int l2), .val (.int ch), .val (.int nu), .val (.ref n1), .val (.ref n2), .val (.int (ch.toInt8.toInt32)), .val (.ref b19), .val (.ref ab1), .val (.ref ab1), .val (.int ((l2 + (1 : Int32)) + (2 : Int32))), .val (.int (2 : Int32)), .val (.ref ab1)]) rfl ?_
            show Steps p.tables e below (T256.setTop (mkF m 257 #[.val (.int p1), .val (.int p2), .val (.int p3), .val (.int l1), .val (.int l2), .val (.int ch), .val (.int nu), .val (.ref n1), .val (.ref n2), .val (.int (ch.toInt8.toInt32)), .val (.ref b19), .val (.ref ab1), .val (.ref ab1), .val (.int ((l2 + (1 : Int32)) + (2 : Int32))), .val (.int (2 : Int32)), .val (.ref ab1)] [])) _
            refine XS.aload X256.here hx rfl (hb hby at_257) rfl rfl ?_
            show Steps p.tables e below (T256.setTop (mkF m 259 #[.val (.int p1), .val (.int p2), .val (.int p3), .val (.int l1), .val (.int l2), .val (.int ch), .val (.int nu), .val (.ref n1), .val (.ref n2), .val (.int (ch.toInt8.toInt32)), .val (.ref b19), .val (.ref ab1), .val (.ref ab1), .val (.int ((l2 + (1 : Int32)) + (2 : Int32))), .val (.int (2 : Int32)), .val (.ref ab1)] [(.ref ab1)])) _
            refine XS.aload X256.here hx rfl (hb hby at_259) rfl rfl ?_
            show Steps p.tables e below (T256.setTop (mkF m 261 #[.val (.int p1), .val (.int p2), .val (.int p3), .val (.int l1), .val (.int l2), .val (.int ch), .val (.int nu), .val (.ref n1), .val (.ref n2), .val (.int (ch.toInt8.toInt32)), .val (.ref b19), .val (.ref ab1), .val (.ref ab1), .val (.int ((l2 + (1 : Int32)) + (2 : Int32))), .val (.int (2 : Int32)), .val (.ref ab1)] [(.ref ab1), (.ref ab1)])) _
            refine Jvm.RoadKit.acmp (g := (mkF m 261 #[.val (.int p1), .val (.int p2), .val (.int p3), .val (.int l1), .val (.int l2), .val (.int ch), .val (.int nu), .val (.ref n1), .val (.ref n2), .val (.int (ch.toInt8.toInt32)), .val (.ref b19), .val (.ref ab1), .val (.ref ab1), .val (.int ((l2 + (1 : Int32)) + (2 : Int32))), .val (.int (2 : Int32)), .val (.ref ab1)] [(.ref ab1), (.ref ab1)])) X256 hx rfl rfl rfl (pc0 := 261) (pc' := 266) (same := true) rfl (hb hby at_261) rfl (decide_eq_true rfl) (by decide) (by decide) ?_
            show Steps p.tables e below (T256.setTop (mkF m 266 #[.val (.int p1), .val (.int p2), .val (.int p3), .val (.int l1), .val (.int l2), .val (.int ch), .val (.int nu), .val (.ref n1), .val (.ref n2), .val (.int (ch.toInt8.toInt32)), .val (.ref b19), .val (.ref ab1), .val (.ref ab1), .val (.int ((l2 + (1 : Int32)) + (2 : Int32))), .val (.int (2 : Int32)), .val (.ref ab1)] [])) _
            refine XS.iload X256.here hx rfl (hb hby at_266) rfl ?_
            show Steps p.tables e below (T256.setTop (mkF m 268 #[.val (.int p1), .val (.int p2), .val (.int p3), .val (.int l1), .val (.int l2), .val (.int ch), .val (.int nu), .val (.ref n1), .val (.ref n2), .val (.int (ch.toInt8.toInt32)), .val (.ref b19), .val (.ref ab1), .val (.ref ab1), .val (.int ((l2 + (1 : Int32)) + (2 : Int32))), .val (.int (2 : Int32)), .val (.ref ab1)] [(.int nu)])) _
            refine XS.bipush X256.here hx rfl (hb hby at_268) ?_
            show Steps p.tables e below (T256.setTop (mkF m 270 #[.val (.int p1), .val (.int p2), .val (.int p3), .val (.int l1), .val (.int l2), .val (.int ch), .val (.int nu), .val (.ref n1), .val (.ref n2), .val (.int (ch.toInt8.toInt32)), .val (.ref b19), .val (.ref ab1), .val (.ref ab1), .val (.int ((l2 + (1 : Int32)) + (2 : Int32))), .val (.int (2 : Int32)), .val (.ref ab1)] [(.int (10 : Int32)), (.int nu)])) _
            refine XS.icmpYes X256.here hx rfl (pc0 := 270) (pc' := 295) rfl (hb hby at_270) rfl (XT.ii_ge_t hn) (by decide) (by decide) ?_
            show Steps p.tables e below (T256.setTop (mkF m 295 #[.val (.int p1), .val (.int p2), .val (.int p3), .val (.int l1), .val (.int l2), .val (.int ch), .val (.int nu), .val (.ref n1), .val (.ref n2), .val (.int (ch.toInt8.toInt32)), .val (.ref b19), .val (.ref ab1), .val (.ref ab1), .val (.int ((l2 + (1 : Int32)) + (2 : Int32))), .val (.int (2 : Int32)), .val (.ref ab1)] [])) _
            refine XS.aload X256.here hx rfl (hb hby at_295) rfl rfl ?_
            show Steps p.tables e below (T256.setTop (mkF m 297 #[.val (.int p1), .val (.int p2), .val (.int p3), .val (.int l1), .val (.int l2), .val (.int ch), .val (.int nu), .val (.ref n1), .val (.ref n2), .val (.int (ch.toInt8.toInt32)), .val (.ref b19), .val (.ref ab1), .val (.ref ab1), .val (.int ((l2 + (1 : Int32)) + (2 : Int32))), .val (.int (2 : Int32)), .val (.ref ab1)] [(.ref ab1)])) _
            refine XS.iload X256.here hx rfl (hb hby at_297) rfl ?_
            show Steps p.tables e below (T256.setTop (mkF m 299 #[.val (.int p1), .val (.int p2), .val (.int p3), .val (.int l1), .val (.int l2), .val (.int ch), .val (.int nu), .val (.ref n1), .val (.ref n2), .val (.int (ch.toInt8.toInt32)), .val (.ref b19), .val (.ref ab1), .val (.ref ab1), .val (.int ((l2 + (1 : Int32)) + (2 : Int32))), .val (.int (2 : Int32)), .val (.ref ab1)] [(.int l2), (.ref ab1)])) _
            refine XS.iconst X256.here hx rfl (hb hby at_299) ?_
            show Steps p.tables e below (T256.setTop (mkF m 300 #[.val (.int p1), .val (.int p2), .val (.int p3), .val (.int l1), .val (.int l2), .val (.int ch), .val (.int nu), .val (.ref n1), .val (.ref n2), .val (.int (ch.toInt8.toInt32)), .val (.ref b19), .val (.ref ab1), .val (.ref ab1), .val (.int ((l2 + (1 : Int32)) + (2 : Int32))), .val (.int (2 : Int32)), .val (.ref ab1)] [(.int (1 : Int32)), (.int l2), (.ref ab1)])) _
            refine XS.iadd X256.here hx rfl (hb hby at_300) rfl ?_
            exact k)
        obtain ⟨cl268, Ar268, hin268, hv268⟩ := own_A.at V_265 (j := (l2 + (1 : Int32))) (own_n0 (by omega)) (own_lt (by omega))
        have pre269 : own_Go p e below (s₁.setTop (entryFrame m #[(.int p1), (.int p2), (.int p3)] maxLocals)) (T256.setTop (mkF m 302 #[.val (.int p1), .val (.int p2), .val (.int p3), .val (.int l1), .val (.int l2), .val (.int ch), .val (.int nu), .val (.ref n1), .val (.ref n2), .val (.int (ch.toInt8.toInt32)), .val (.ref b19), .val (.ref ab1), .val (.ref ab1), .val (.int ((l2 + (1 : Int32)) + (2 : Int32))), .val (.int (2 : Int32)), .val (.ref ab1)] [(.int (((48 : Int32) + (nu / (10 : Int32))).toInt8.toInt32))])) := fun t k => pre267 t (X256.baloadBytes hx (j := (l2 + (1 : Int32))) (v := .int (((48 : Int32) + (nu / (10 : Int32))).toInt8.toInt32)) (by rw [show T256.heap = T256.heap from rfl]; exact Ar268.1) (State.isArrayOf_alike hZ.alike Ar268.2.1) Ar268.2.2 hin268 (hv268.trans (congrArg (fun z => some (Value.int z)) ((own_upd_hit _ _ rfl).trans (own_dig1 (by omega) (by omega))))) (g := (mkF m 301 #[.val (.int p1), .val (.int p2), .val (.int p3), .val (.int l1), .val (.int l2), .val (.int ch), .val (.int nu), .val (.ref n1), .val (.ref n2), .val (.int (ch.toInt8.toInt32)), .val (.ref b19), .val (.ref ab1), .val (.ref ab1), .val (.int ((l2 + (1 : Int32)) + (2 : Int32))), .val (.int (2 : Int32)), .val (.ref ab1)] [(.int (l2 + (1 : Int32))), (.ref ab1)])) rfl rfl (hb hby at_301) t k)
        have pre270 : own_Go p e below (s₁.setTop (entryFrame m #[(.int p1), (.int p2), (.int p3)] maxLocals)) (T256.setTop (mkF m 320 #[.val (.int p1), .val (.int p2), .val (.int p3), .val (.int l1), .val (.int l2), .val (.int ch), .val (.int nu), .val (.ref n1), .val (.ref n2), .val (.int (ch.toInt8.toInt32)), .val (.ref b19), .val (.ref ab1), .val (.ref ab1), .val (.int ((l2 + (1 : Int32)) + (2 : Int32))), .val (.int (2 : Int32)), .val (.ref ab1)] [(.int (l2 + (2 : Int32))), (.ref ab1)])) := fun t k => pre269 t (by
            show Steps p.tables e below (T256.setTop (mkF m 302 #[.val (.int p1), .val (.int p2), .val (.int p3), .val (.int l1), .val (.int l2), .val (.int ch), .val (.int nu), .val (.ref n1), .val (.ref n2), .val (.int (ch.toInt8.toInt32)), .val (.ref b19), .val (.ref ab1), .val (.ref ab1), .val (.int ((l2 + (1 : Int32)) + (2 : Int32))), .val (.int (2 : Int32)), .val (.ref ab1)] [(.int (((48 : Int32) + (nu / (10 : Int32))).toInt8.toInt32))])) _
            refine XS.bipush X256.here hx rfl (hb hby at_302) ?_
            show Steps p.tables e below (T256.setTop (mkF m 304 #[.val (.int p1), .val (.int p2), .val (.int p3), .val (.int l1), .val (.int l2), .val (.int ch), .val (.int nu), .val (.ref n1), .val (.ref n2), .val (.int (ch.toInt8.toInt32)), .val (.ref b19), .val (.ref ab1), .val (.ref ab1), .val (.int ((l2 + (1 : Int32)) + (2 : Int32))), .val (.int (2 : Int32)), .val (.ref ab1)] [(.int (48 : Int32)), (.int (((48 : Int32) + (nu / (10 : Int32))).toInt8.toInt32))])) _
            refine XS.iload X256.here hx rfl (hb hby at_304) rfl ?_
            show Steps p.tables e below (T256.setTop (mkF m 306 #[.val (.int p1), .val (.int p2), .val (.int p3), .val (.int l1), .val (.int l2), .val (.int ch), .val (.int nu), .val (.ref n1), .val (.ref n2), .val (.int (ch.toInt8.toInt32)), .val (.ref b19), .val (.ref ab1), .val (.ref ab1), .val (.int ((l2 + (1 : Int32)) + (2 : Int32))), .val (.int (2 : Int32)), .val (.ref ab1)] [(.int nu), (.int (48 : Int32)), (.int (((48 : Int32) + (nu / (10 : Int32))).toInt8.toInt32))])) _
            refine XS.bipush X256.here hx rfl (hb hby at_306) ?_
            show Steps p.tables e below (T256.setTop (mkF m 308 #[.val (.int p1), .val (.int p2), .val (.int p3), .val (.int l1), .val (.int l2), .val (.int ch), .val (.int nu), .val (.ref n1), .val (.ref n2), .val (.int (ch.toInt8.toInt32)), .val (.ref b19), .val (.ref ab1), .val (.ref ab1), .val (.int ((l2 + (1 : Int32)) + (2 : Int32))), .val (.int (2 : Int32)), .val (.ref ab1)] [(.int (10 : Int32)), (.int nu), (.int (48 : Int32)), (.int (((48 : Int32) + (nu / (10 : Int32))).toInt8.toInt32))])) _
            refine XS.idiv X256.here hx rfl (hb hby at_308) rfl (by decide) ?_
            show Steps p.tables e below (T256.setTop (mkF m 309 #[.val (.int p1), .val (.int p2), .val (.int p3), .val (.int l1), .val (.int l2), .val (.int ch), .val (.int nu), .val (.ref n1), .val (.ref n2), .val (.int (ch.toInt8.toInt32)), .val (.ref b19), .val (.ref ab1), .val (.ref ab1), .val (.int ((l2 + (1 : Int32)) + (2 : Int32))), .val (.int (2 : Int32)), .val (.ref ab1)] [(.int (nu / (10 : Int32))), (.int (48 : Int32)), (.int (((48 : Int32) + (nu / (10 : Int32))).toInt8.toInt32))])) _
            refine XS.iadd X256.here hx rfl (hb hby at_309) rfl ?_
            show Steps p.tables e below (T256.setTop (mkF m 310 #[.val (.int p1), .val (.int p2), .val (.int p3), .val (.int l1), .val (.int l2), .val (.int ch), .val (.int nu), .val (.ref n1), .val (.ref n2), .val (.int (ch.toInt8.toInt32)), .val (.ref b19), .val (.ref ab1), .val (.ref ab1), .val (.int ((l2 + (1 : Int32)) + (2 : Int32))), .val (.int (2 : Int32)), .val (.ref ab1)] [(.int ((48 : Int32) + (nu / (10 : Int32)))), (.int (((48 : Int32) + (nu / (10 : Int32))).toInt8.toInt32))])) _
            refine XT.i2b X256.here hx rfl (hb hby at_310) rfl ?_
            show Steps p.tables e below (T256.setTop (mkF m 311 #[.val (.int p1), .val (.int p2), .val (.int p3), .val (.int l1), .val (.int l2), .val (.int ch), .val (.int nu), .val (.ref n1), .val (.ref n2), .val (.int (ch.toInt8.toInt32)), .val (.ref b19), .val (.ref ab1), .val (.ref ab1), .val (.int ((l2 + (1 : Int32)) + (2 : Int32))), .val (.int (2 : Int32)), .val (.ref ab1)] [(.int (((48 : Int32) + (nu / (10 : Int32))).toInt8.toInt32)), (.int (((48 : Int32) + (nu / (10 : Int32))).toInt8.toInt32))])) _
            refine XS.icmpNo X256.here hx rfl (hb hby at_311) rfl (XT.ii_ne_f rfl) ?_
            show Steps p.tables e below (T256.setTop (mkF m 314 #[.val (.int p1), .val (.int p2), .val (.int p3), .val (.int l1), .val (.int l2), .val (.int ch), .val (.int nu), .val (.ref n1), .val (.ref n2), .val (.int (ch.toInt8.toInt32)), .val (.ref b19), .val (.ref ab1), .val (.ref ab1), .val (.int ((l2 + (1 : Int32)) + (2 : Int32))), .val (.int (2 : Int32)), .val (.ref ab1)] [])) _
            refine XS.aload X256.here hx rfl (hb hby at_314) rfl rfl ?_
            show Steps p.tables e below (T256.setTop (mkF m 316 #[.val (.int p1), .val (.int p2), .val (.int p3), .val (.int l1), .val (.int l2), .val (.int ch), .val (.int nu), .val (.ref n1), .val (.ref n2), .val (.int (ch.toInt8.toInt32)), .val (.ref b19), .val (.ref ab1), .val (.ref ab1), .val (.int ((l2 + (1 : Int32)) + (2 : Int32))), .val (.int (2 : Int32)), .val (.ref ab1)] [(.ref ab1)])) _
            refine XS.iload X256.here hx rfl (hb hby at_316) rfl ?_
            show Steps p.tables e below (T256.setTop (mkF m 318 #[.val (.int p1), .val (.int p2), .val (.int p3), .val (.int l1), .val (.int l2), .val (.int ch), .val (.int nu), .val (.ref n1), .val (.ref n2), .val (.int (ch.toInt8.toInt32)), .val (.ref b19), .val (.ref ab1), .val (.ref ab1), .val (.int ((l2 + (1 : Int32)) + (2 : Int32))), .val (.int (2 : Int32)), .val (.ref ab1)] [(.int l2), (.ref ab1)])) _
            refine XS.iconst X256.here hx rfl (hb hby at_318) ?_
            show Steps p.tables e below (T256.setTop (mkF m 319 #[.val (.int p1), .val (.int p2), .val (.int p3), .val (.int l1), .val (.int l2), .val (.int ch), .val (.int nu), .val (.ref n1), .val (.ref n2), .val (.int (ch.toInt8.toInt32)), .val (.ref b19), .val (.ref ab1), .val (.ref ab1), .val (.int ((l2 + (1 : Int32)) + (2 : Int32))), .val (.int (2 : Int32)), .val (.ref ab1)] [(.int (2 : Int32)), (.int l2), (.ref ab1)])) _
            refine XS.iadd X256.here hx rfl (hb hby at_319) rfl ?_
            exact k)
        obtain ⟨cl271, Ar271, hin271, hv271⟩ := own_A.at V_265 (j := (l2 + (2 : Int32))) (own_n0 (by omega)) (own_lt (by omega))
        have pre272 : own_Go p e below (s₁.setTop (entryFrame m #[(.int p1), (.int p2), (.int p3)] maxLocals)) (T256.setTop (mkF m 321 #[.val (.int p1), .val (.int p2), .val (.int p3), .val (.int l1), .val (.int l2), .val (.int ch), .val (.int nu), .val (.ref n1), .val (.ref n2), .val (.int (ch.toInt8.toInt32)), .val (.ref b19), .val (.ref ab1), .val (.ref ab1), .val (.int ((l2 + (1 : Int32)) + (2 : Int32))), .val (.int (2 : Int32)), .val (.ref ab1)] [(.int (((48 : Int32) + (nu % (10 : Int32))).toInt8.toInt32))])) := fun t k => pre270 t (X256.baloadBytes hx (j := (l2 + (2 : Int32))) (v := .int (((48 : Int32) + (nu % (10 : Int32))).toInt8.toInt32)) (by rw [show T256.heap = T256.heap from rfl]; exact Ar271.1) (State.isArrayOf_alike hZ.alike Ar271.2.1) Ar271.2.2 hin271 (hv271.trans (congrArg (fun z => some (Value.int z)) ((own_upd_miss _ _ (own_nn (own_n0 (by omega)) (own_n0 (by omega)) (own_ne (by omega)))).trans ((own_upd_hit _ _ (by rw [own_s4])).trans (own_narb _))))) (g := (mkF m 320 #[.val (.int p1), .val (.int p2), .val (.int p3), .val (.int l1), .val (.int l2), .val (.int ch), .val (.int nu), .val (.ref n1), .val (.ref n2), .val (.int (ch.toInt8.toInt32)), .val (.ref b19), .val (.ref ab1), .val (.ref ab1), .val (.int ((l2 + (1 : Int32)) + (2 : Int32))), .val (.int (2 : Int32)), .val (.ref ab1)] [(.int (l2 + (2 : Int32))), (.ref ab1)])) rfl rfl (hb hby at_320) t k)
        have pre273 : own_Go p e below (s₁.setTop (entryFrame m #[(.int p1), (.int p2), (.int p3)] maxLocals)) (T256.setTop (mkF m 338 #[.val (.int p1), .val (.int p2), .val (.int p3), .val (.int l1), .val (.int l2), .val (.int ch), .val (.int nu), .val (.ref n1), .val (.ref n2), .val (.int (ch.toInt8.toInt32)), .val (.ref b19), .val (.ref ab1), .val (.ref ab1), .val (.int ((l2 + (1 : Int32)) + (2 : Int32))), .val (.int (2 : Int32)), .val (.ref ab1)] [(.int (1 : Int32))])) := fun t k => pre272 t (by
            show Steps p.tables e below (T256.setTop (mkF m 321 #[.val (.int p1), .val (.int p2), .val (.int p3), .val (.int l1), .val (.int l2), .val (.int ch), .val (.int nu), .val (.ref n1), .val (.ref n2), .val (.int (ch.toInt8.toInt32)), .val (.ref b19), .val (.ref ab1), .val (.ref ab1), .val (.int ((l2 + (1 : Int32)) + (2 : Int32))), .val (.int (2 : Int32)), .val (.ref ab1)] [(.int (((48 : Int32) + (nu % (10 : Int32))).toInt8.toInt32))])) _
            refine XS.bipush X256.here hx rfl (hb hby at_321) ?_
            show Steps p.tables e below (T256.setTop (mkF m 323 #[.val (.int p1), .val (.int p2), .val (.int p3), .val (.int l1), .val (.int l2), .val (.int ch), .val (.int nu), .val (.ref n1), .val (.ref n2), .val (.int (ch.toInt8.toInt32)), .val (.ref b19), .val (.ref ab1), .val (.ref ab1), .val (.int ((l2 + (1 : Int32)) + (2 : Int32))), .val (.int (2 : Int32)), .val (.ref ab1)] [(.int (48 : Int32)), (.int (((48 : Int32) + (nu % (10 : Int32))).toInt8.toInt32))])) _
            refine XS.iload X256.here hx rfl (hb hby at_323) rfl ?_
            show Steps p.tables e below (T256.setTop (mkF m 325 #[.val (.int p1), .val (.int p2), .val (.int p3), .val (.int l1), .val (.int l2), .val (.int ch), .val (.int nu), .val (.ref n1), .val (.ref n2), .val (.int (ch.toInt8.toInt32)), .val (.ref b19), .val (.ref ab1), .val (.ref ab1), .val (.int ((l2 + (1 : Int32)) + (2 : Int32))), .val (.int (2 : Int32)), .val (.ref ab1)] [(.int nu), (.int (48 : Int32)), (.int (((48 : Int32) + (nu % (10 : Int32))).toInt8.toInt32))])) _
            refine XS.bipush X256.here hx rfl (hb hby at_325) ?_
            show Steps p.tables e below (T256.setTop (mkF m 327 #[.val (.int p1), .val (.int p2), .val (.int p3), .val (.int l1), .val (.int l2), .val (.int ch), .val (.int nu), .val (.ref n1), .val (.ref n2), .val (.int (ch.toInt8.toInt32)), .val (.ref b19), .val (.ref ab1), .val (.ref ab1), .val (.int ((l2 + (1 : Int32)) + (2 : Int32))), .val (.int (2 : Int32)), .val (.ref ab1)] [(.int (10 : Int32)), (.int nu), (.int (48 : Int32)), (.int (((48 : Int32) + (nu % (10 : Int32))).toInt8.toInt32))])) _
            refine iremM X256 hx rfl (hb hby at_327) rfl (by decide) ?_
            show Steps p.tables e below (T256.setTop (mkF m 328 #[.val (.int p1), .val (.int p2), .val (.int p3), .val (.int l1), .val (.int l2), .val (.int ch), .val (.int nu), .val (.ref n1), .val (.ref n2), .val (.int (ch.toInt8.toInt32)), .val (.ref b19), .val (.ref ab1), .val (.ref ab1), .val (.int ((l2 + (1 : Int32)) + (2 : Int32))), .val (.int (2 : Int32)), .val (.ref ab1)] [(.int (nu % (10 : Int32))), (.int (48 : Int32)), (.int (((48 : Int32) + (nu % (10 : Int32))).toInt8.toInt32))])) _
            refine XS.iadd X256.here hx rfl (hb hby at_328) rfl ?_
            show Steps p.tables e below (T256.setTop (mkF m 329 #[.val (.int p1), .val (.int p2), .val (.int p3), .val (.int l1), .val (.int l2), .val (.int ch), .val (.int nu), .val (.ref n1), .val (.ref n2), .val (.int (ch.toInt8.toInt32)), .val (.ref b19), .val (.ref ab1), .val (.ref ab1), .val (.int ((l2 + (1 : Int32)) + (2 : Int32))), .val (.int (2 : Int32)), .val (.ref ab1)] [(.int ((48 : Int32) + (nu % (10 : Int32)))), (.int (((48 : Int32) + (nu % (10 : Int32))).toInt8.toInt32))])) _
            refine XT.i2b X256.here hx rfl (hb hby at_329) rfl ?_
            show Steps p.tables e below (T256.setTop (mkF m 330 #[.val (.int p1), .val (.int p2), .val (.int p3), .val (.int l1), .val (.int l2), .val (.int ch), .val (.int nu), .val (.ref n1), .val (.ref n2), .val (.int (ch.toInt8.toInt32)), .val (.ref b19), .val (.ref ab1), .val (.ref ab1), .val (.int ((l2 + (1 : Int32)) + (2 : Int32))), .val (.int (2 : Int32)), .val (.ref ab1)] [(.int (((48 : Int32) + (nu % (10 : Int32))).toInt8.toInt32)), (.int (((48 : Int32) + (nu % (10 : Int32))).toInt8.toInt32))])) _
            refine XS.icmpNo X256.here hx rfl (hb hby at_330) rfl (XT.ii_ne_f rfl) ?_
            show Steps p.tables e below (T256.setTop (mkF m 333 #[.val (.int p1), .val (.int p2), .val (.int p3), .val (.int l1), .val (.int l2), .val (.int ch), .val (.int nu), .val (.ref n1), .val (.ref n2), .val (.int (ch.toInt8.toInt32)), .val (.ref b19), .val (.ref ab1), .val (.ref ab1), .val (.int ((l2 + (1 : Int32)) + (2 : Int32))), .val (.int (2 : Int32)), .val (.ref ab1)] [])) _
            refine XS.iconst X256.here hx rfl (hb hby at_333) ?_
            show Steps p.tables e below (T256.setTop (mkF m 334 #[.val (.int p1), .val (.int p2), .val (.int p3), .val (.int l1), .val (.int l2), .val (.int ch), .val (.int nu), .val (.ref n1), .val (.ref n2), .val (.int (ch.toInt8.toInt32)), .val (.ref b19), .val (.ref ab1), .val (.ref ab1), .val (.int ((l2 + (1 : Int32)) + (2 : Int32))), .val (.int (2 : Int32)), .val (.ref ab1)] [(.int (1 : Int32))])) _
            refine XS.goto X256.here hx rfl (pc0 := 334) (pc' := 338) rfl (hb hby at_334) (by decide) (by decide) ?_
            exact k)
        obtain ⟨fs, hr, hrun, hended, hW, hsame⟩ := X256.leave (v := some (.int (1 : Int32))) (fun h => by rw [Bd.returns] at h; cases h)
        refine ⟨_, _, pre273 _ ?_, hrun, hended, _, _, rfl, ?_, ⟨_, rfl⟩, hW, hsame.mono (by decide) (by decide)⟩
        · show Steps p.tables e below (T256.setTop (mkF m 338 #[.val (.int p1), .val (.int p2), .val (.int p3), .val (.int l1), .val (.int l2), .val (.int ch), .val (.int nu), .val (.ref n1), .val (.ref n2), .val (.int (ch.toInt8.toInt32)), .val (.ref b19), .val (.ref ab1), .val (.ref ab1), .val (.int ((l2 + (1 : Int32)) + (2 : Int32))), .val (.int (2 : Int32)), .val (.ref ab1)] [(.int (1 : Int32))])) _
          exact retN X256 hx (t := .boolean) Bd.returns (by simp) (hb hby at_338) hr
        · show Q0 Z p1 p2 p3 h0 n0 _ T256.heap _
          exact ⟨rfl, N256⟩
    · skip
      have pre274 : own_Go p e below (s₁.setTop (entryFrame m #[(.int p1), (.int p2), (.int p3)] maxLocals)) (T199.setTop (mkF m 217 #[.val (.int p1), .val (.int p2), .val (.int p3), .val (.int l1), .val (.int l2), .val (.int ch), .val (.int nu), .val (.ref n1), .val (.ref n2), .val (.int (ch.toInt8.toInt32)), .val (.ref b19), .val (.ref ab1), .val (.ref ab1), .unset, .unset, .unset] [(.int nu), (.ref b19)])) := fun t k => pre213 t (by
          show Steps p.tables e below (T199.setTop (mkF m 199 #[.val (.int p1), .val (.int p2), .val (.int p3), .val (.int l1), .val (.int l2), .val (.int ch), .val (.int nu), .val (.ref n1), .val (.ref n2), .val (.int (ch.toInt8.toInt32)), .val (.ref b19), .val (.ref ab1), .val (.ref ab1), .unset, .unset, .unset] [(.int l2), (.int l1)])) _
          refine XS.icmpYes X199.here hx rfl (pc0 := 199) (pc' := 213) rfl (hb hby at_199) rfl (XT.ii_le_t c199_214) (by decide) (by decide) ?_
          show Steps p.tables e below (T199.setTop (mkF m 213 #[.val (.int p1), .val (.int p2), .val (.int p3), .val (.int l1), .val (.int l2), .val (.int ch), .val (.int nu), .val (.ref n1), .val (.ref n2), .val (.int (ch.toInt8.toInt32)), .val (.ref b19), .val (.ref ab1), .val (.ref ab1), .unset, .unset, .unset] [])) _
          refine XS.aload X199.here hx rfl (hb hby at_213) rfl rfl ?_
          show Steps p.tables e below (T199.setTop (mkF m 215 #[.val (.int p1), .val (.int p2), .val (.int p3), .val (.int l1), .val (.int l2), .val (.int ch), .val (.int nu), .val (.ref n1), .val (.ref n2), .val (.int (ch.toInt8.toInt32)), .val (.ref b19), .val (.ref ab1), .val (.ref ab1), .unset, .unset, .unset] [(.ref b19)])) _
          refine XS.iload X199.here hx rfl (hb hby at_215) rfl ?_
          exact k)
      have nbv : (l2 + (1 : Int32)).toInt + 9 ≤ ((l1 + (11 : Int32))).toInt := by omega
      by_cases hn : nu < (10 : Int32)
      · skip
        have hn' := hn
        rw [Int32.lt_iff_toInt_lt] at hn'
        have Zh21 : n0 ≤ T199.heap.size := Nat.le_trans Z0 K_209.1
        obtain ⟨cq275, kq275, q275a, q275b, q275c⟩ := isOf hZ rfl Ex_204
        obtain ⟨_, _, ⟨T275, L275, k275, n275⟩, -, X275, ⟨Lc275, hQ275, l275, y275, z275⟩, st275⟩ := X199.virtualBack hx (y := (⟨"com/example/gyre/gyre/NodeLabel", "withNumber", "(I)I"⟩ : MethodName)) (z := (⟨"com/example/gyre/gyre/NodeLabel", "withNumber", "(I)I"⟩ : MethodName)) hown (mvT hZ (hw _ (List.mem_of_getElem? (i := 37) rfl))) (mvT hZ (hw _ (List.mem_of_getElem? (i := 38) rfl))) (notFace_of_selects (args := #[]) (mvT hZ (hw _ (List.mem_of_getElem? (i := 40) rfl)))) (mvT hZ (hw _ (List.mem_of_getElem? (i := 40) rfl))) (mvT hZ (hw _ (List.mem_of_getElem? (i := 39) rfl))) (by decide) (backOf (W := 0) (rm6 l Z a0 hw [] b19 ab1 nu (l2 + (1 : Int32)) (l1 + (11 : Int32)) _ T199.heap n0 Zh21 F_201 F_203 V_208 g_ab1 ne_b19_ab1 ⟨by omega, by omega⟩ ⟨by omega, by omega⟩ (by omega)) hZ (hw _ (List.mem_of_getElem? (i := 41) rfl)) (hw _ (List.mem_of_getElem? (i := 7) rfl)) (by decide) (by decide)) q275a q275c (g := (mkF m 217 #[.val (.int p1), .val (.int p2), .val (.int p3), .val (.int l1), .val (.int l2), .val (.int ch), .val (.int nu), .val (.ref n1), .val (.ref n2), .val (.int (ch.toInt8.toInt32)), .val (.ref b19), .val (.ref ab1), .val (.ref ab1), .unset, .unset, .unset] [(.int nu), (.ref b19)])) rfl (by rw [hml]; rfl) (Steps.refl _) (argsL := [(.int nu)]) (rest := []) (lenOf pd_0_5 rfl) rfl (by show 2 * 0 + _ ≤ _; exact Nat.le_of_eq rfl) (hb hby at_217) (fun _ _ => ⟨rfl, rfl, (by decide : 5 + 0 ≤ _), (by decide : 23 + 0 ≤ _)⟩)
        dsimp only [Pt.U, Pt.locs, Pt.cells, Pt.slots] at X275 l275 y275 z275 st275 hQ275
        subst l275 y275 z275
        obtain ⟨rfl, N275q, K275, V275⟩ := hQ275
        have N275 := Fr.app N199 N275q
        have pre276 : own_Go p e below (s₁.setTop (entryFrame m #[(.int p1), (.int p2), (.int p3)] maxLocals)) (T275.setTop (mkF m 220 #[.val (.int p1), .val (.int p2), .val (.int p3), .val (.int l1), .val (.int l2), .val (.int ch), .val (.int nu), .val (.ref n1), .val (.ref n2), .val (.int (ch.toInt8.toInt32)), .val (.ref b19), .val (.ref ab1), .val (.ref ab1), .unset, .unset, .unset] [(.int ((l2 + (1 : Int32)) + (1 : Int32)))])) := fun t k => pre274 t (st275.trans k)
        have F_277 := F_201.keep K275 (ninS ne_b19_ab1 nin0)
        have F_278 := F_202.keep K275 (ninS ne_b19_ab1 nin0)
        have F_279 := F_203.keep K275 (ninS ne_b19_ab1 nin0)
        have Ex_280 := Ex_204.keep K275
        have V_281 := V_205.keep K275 (ninS ne_n1_ab1 nin0)
        have V_282 := V_206.keep K275 (ninS ne_n2_ab1 nin0)
        have V_283 := V_207.keep K275 (ninS ne_ab0_ab1 nin0)
        have K_284 := K_209.trans K275 (allS (Or.inr sz_ab1) all0)
        have Zh22 : n0 ≤ T275.heap.size := Nat.le_trans Z0 K_284.1
        have pre285 : own_Go p e below (s₁.setTop (entryFrame m #[(.int p1), (.int p2), (.int p3)] maxLocals)) (T275.setTop (mkF m 252 #[.val (.int p1), .val (.int p2), .val (.int p3), .val (.int l1), .val (.int l2), .val (.int ch), .val (.int nu), .val (.ref n1), .val (.ref n2), .val (.int (ch.toInt8.toInt32)), .val (.ref b19), .val (.ref ab1), .val (.ref ab1), .val (.int ((l2 + (1 : Int32)) + (1 : Int32))), .val (.int (1 : Int32)), .unset] [(.ref b19)])) := fun t k => pre276 t (by
            show Steps p.tables e below (T275.setTop (mkF m 220 #[.val (.int p1), .val (.int p2), .val (.int p3), .val (.int l1), .val (.int l2), .val (.int ch), .val (.int nu), .val (.ref n1), .val (.ref n2), .val (.int (ch.toInt8.toInt32)), .val (.ref b19), .val (.ref ab1), .val (.ref ab1), .unset, .unset, .unset] [(.int ((l2 + (1 : Int32)) + (1 : Int32)))])) _
            refine XS.istore X275.here hx rfl (hb hby at_220) rfl (l' := #[.val (.int p1), .val (.int p2), .val (.int p3), .val (.int l1), .val (.int l2), .val (.int ch), .val (.int nu), .val (.ref n1), .val (.ref n2), .val (.int (ch.toInt8.toInt32)), .val (.ref b19), .val (.ref ab1), .val (.ref ab1), .val (.int ((l2 + (1 : Int32)) + (1 : Int32))), .unset, .unset]) rfl ?_
            show Steps p.tables e below (T275.setTop (mkF m 222 #[.val (.int p1), .val (.int p2), .val (.int p3), .val (.int l1), .val (.int l2), .val (.int ch), .val (.int nu), .val (.ref n1), .val (.ref n2), .val (.int (ch.toInt8.toInt32)), .val (.ref b19), .val (.ref ab1), .val (.ref ab1), .val (.int ((l2 + (1 : Int32)) + (1 : Int32))), .unset, .unset] [])) _
            refine XS.iload X275.here hx rfl (hb hby at_222) rfl ?_
            show Steps p.tables e below (T275.setTop (mkF m 224 #[.val (.int p1), .val (.int p2), .val (.int p3), .val (.int l1), .val (.int l2), .val (.int ch), .val (.int nu), .val (.ref n1), .val (.ref n2), .val (.int (ch.toInt8.toInt32)), .val (.ref b19), .val (.ref ab1), .val (.ref ab1), .val (.int ((l2 + (1 : Int32)) + (1 : Int32))), .unset, .unset] [(.int nu)])) _
            refine XS.bipush X275.here hx rfl (hb hby at_224) ?_
            show Steps p.tables e below (T275.setTop (mkF m 226 #[.val (.int p1), .val (.int p2), .val (.int p3), .val (.int l1), .val (.int l2), .val (.int ch), .val (.int nu), .val (.ref n1), .val (.ref n2), .val (.int (ch.toInt8.toInt32)), .val (.ref b19), .val (.ref ab1), .val (.ref ab1), .val (.int ((l2 + (1 : Int32)) + (1 : Int32))), .unset, .unset] [(.int (10 : Int32)), (.int nu)])) _
            refine XS.icmpNo X275.here hx rfl (hb hby at_226) rfl (XT.ii_ge_f hn) ?_
            show Steps p.tables e below (T275.setTop (mkF m 229 #[.val (.int p1), .val (.int p2), .val (.int p3), .val (.int l1), .val (.int l2), .val (.int ch), .val (.int nu), .val (.ref n1), .val (.ref n2), .val (.int (ch.toInt8.toInt32)), .val (.ref b19), .val (.ref ab1), .val (.ref ab1), .val (.int ((l2 + (1 : Int32)) + (1 : Int32))), .unset, .unset] [])) _
            refine XS.iconst X275.here hx rfl (hb hby at_229) ?_
            show Steps p.tables e below (T275.setTop (mkF m 230 #[.val (.int p1), .val (.int p2), .val (.int p3), .val (.int l1), .val (.int l2), .val (.int ch), .val (.int nu), .val (.ref n1), .val (.ref n2), .val (.int (ch.toInt8.toInt32)), .val (.ref b19), .val (.ref ab1), .val (.ref ab1), .val (.int ((l2 + (1 : Int32)) + (1 : Int32))), .unset, .unset] [(.int (1 : Int32))])) _
            refine XS.goto X275.here hx rfl (pc0 := 230) (pc' := 234) rfl (hb hby at_230) (by decide) (by decide) ?_
            show Steps p.tables e below (T275.setTop (mkF m 234 #[.val (.int p1), .val (.int p2), .val (.int p3), .val (.int l1), .val (.int l2), .val (.int ch), .val (.int nu), .val (.ref n1), .val (.ref n2), .val (.int (ch.toInt8.toInt32)), .val (.ref b19), .val (.ref ab1), .val (.ref ab1), .val (.int ((l2 + (1 : Int32)) + (1 : Int32))), .unset, .unset] [(.int (1 : Int32))])) _
            refine XS.istore X275.here hx rfl (hb hby at_234) rfl (l' := #[.val (.int p1), .val (.int p2), .val (.int p3), .val (.int l1), .val (.int l2), .val (.int ch), .val (.int nu), .val (.ref n1), .val (.ref n2), .val (.int (ch.toInt8.toInt32)), .val (.ref b19), .val (.ref ab1), .val (.ref ab1), .val (.int ((l2 + (1 : Int32)) + (1 : Int32))), .val (.int (1 : Int32)), .unset]) rfl ?_
            show Steps p.tables e below (T275.setTop (mkF m 236 #[.val (.int p1), .val (.int p2), .val (.int p3), .val (.int l1), .val (.int l2), .val (.int ch), .val (.int nu), .val (.ref n1), .val (.ref n2), .val (.int (ch.toInt8.toInt32)), .val (.ref b19), .val (.ref ab1), .val (.ref ab1), .val (.int ((l2 + (1 : Int32)) + (1 : Int32))), .val (.int (1 : Int32)), .unset] [])) _
            refine XS.iload X275.here hx rfl (hb hby at_236) rfl ?_
            show Steps p.tables e below (T275.setTop (mkF m 238 #[.val (.int p1), .val (.int p2), .val (.int p3), .val (.int l1), .val (.int l2), .val (.int ch), .val (.int nu), .val (.ref n1), .val (.ref n2), .val (.int (ch.toInt8.toInt32)), .val (.ref b19), .val (.ref ab1), .val (.ref ab1), .val (.int ((l2 + (1 : Int32)) + (1 : Int32))), .val (.int (1 : Int32)), .unset] [(.int ((l2 + (1 : Int32)) + (1 : Int32)))])) _
            refine XS.iload X275.here hx rfl (hb hby at_238) rfl ?_
            show Steps p.tables e below (T275.setTop (mkF m 240 #[.val (.int p1), .val (.int p2), .val (.int p3), .val (.int l1), .val (.int l2), .val (.int ch), .val (.int nu), .val (.ref n1), .val (.ref n2), .val (.int (ch.toInt8.toInt32)), .val (.ref b19), .val (.ref ab1), .val (.ref ab1), .val (.int ((l2 + (1 : Int32)) + (1 : Int32))), .val (.int (1 : Int32)), .unset] [(.int l2), (.int ((l2 + (1 : Int32)) + (1 : Int32)))])) _
            refine XS.iconst X275.here hx rfl (hb hby at_240) ?_
            show Steps p.tables e below (T275.setTop (mkF m 241 #[.val (.int p1), .val (.int p2), .val (.int p3), .val (.int l1), .val (.int l2), .val (.int ch), .val (.int nu), .val (.ref n1), .val (.ref n2), .val (.int (ch.toInt8.toInt32)), .val (.ref b19), .val (.ref ab1), .val (.ref ab1), .val (.int ((l2 + (1 : Int32)) + (1 : Int32))), .val (.int (1 : Int32)), .unset] [(.int (1 : Int32)), (.int l2), (.int ((l2 + (1 : Int32)) + (1 : Int32)))])) _
            refine XS.iadd X275.here hx rfl (hb hby at_241) rfl ?_
            show Steps p.tables e below (T275.setTop (mkF m 242 #[.val (.int p1), .val (.int p2), .val (.int p3), .val (.int l1), .val (.int l2), .val (.int ch), .val (.int nu), .val (.ref n1), .val (.ref n2), .val (.int (ch.toInt8.toInt32)), .val (.ref b19), .val (.ref ab1), .val (.ref ab1), .val (.int ((l2 + (1 : Int32)) + (1 : Int32))), .val (.int (1 : Int32)), .unset] [(.int (l2 + (1 : Int32))), (.int ((l2 + (1 : Int32)) + (1 : Int32)))])) _
            refine XS.iload X275.here hx rfl (hb hby at_242) rfl ?_
            show Steps p.tables e below (T275.setTop (mkF m 244 #[.val (.int p1), .val (.int p2), .val (.int p3), .val (.int l1), .val (.int l2), .val (.int ch), .val (.int nu), .val (.ref n1), .val (.ref n2), .val (.int (ch.toInt8.toInt32)), .val (.ref b19), .val (.ref ab1), .val (.ref ab1), .val (.int ((l2 + (1 : Int32)) + (1 : Int32))), .val (.int (1 : Int32)), .unset] [(.int (1 : Int32)), (.int (l2 + (1 : Int32))), (.int ((l2 + (1 : Int32)) + (1 : Int32)))])) _
            refine XS.iadd X275.here hx rfl (hb hby at_244) rfl ?_
            show Steps p.tables e below (T275.setTop (mkF m 245 #[.val (.int p1), .val (.int p2), .val (.int p3), .val (.int l1), .val (.int l2), .val (.int ch), .val (.int nu), .val (.ref n1), .val (.ref n2), .val (.int (ch.toInt8.toInt32)), .val (.ref b19), .val (.ref ab1), .val (.ref ab1), .val (.int ((l2 + (1 : Int32)) + (1 : Int32))), .val (.int (1 : Int32)), .unset] [(.int ((l2 + (1 : Int32)) + (1 : Int32))), (.int ((l2 + (1 : Int32)) + (1 : Int32)))])) _
            refine XS.icmpYes X275.here hx rfl (pc0 := 245) (pc' := 250) rfl (hb hby at_245) rfl (XT.ii_eq_t rfl) (by decide) (by decide) ?_
            show Steps p.tables e below (T275.setTop (mkF m 250 #[.val (.int p1), .val (.int p2), .val (.int p3), .val (.int l1), .val (.int l2), .val (.int ch), .val (.int nu), .val (.ref n1), .val (.ref n2), .val (.int (ch.toInt8.toInt32)), .val (.ref b19), .val (.ref ab1), .val (.ref ab1), .val (.int ((l2 + (1 : Int32)) + (1 : Int32))), .val (.int (1 : Int32)), .unset] [])) _
            refine XS.aload X275.here hx rfl (hb hby at_250) rfl rfl ?_
            exact k)
        obtain ⟨cq286, kq286, q286a, q286b, q286c⟩ := isOf hZ rfl Ex_280
        obtain ⟨_, _, ⟨T286, L286, k286, n286⟩, -, X286, ⟨Lc286, hQ286, l286, y286, z286⟩, st286⟩ := X275.virtualBack hx (y := (⟨"com/example/gyre/gyre/NodeLabel", "bytes", "()[B"⟩ : MethodName)) (z := (⟨"com/example/gyre/gyre/NodeLabel", "bytes", "()[B"⟩ : MethodName)) hown (mvT hZ (hw _ (List.mem_of_getElem? (i := 29) rfl))) (mvT hZ (hw _ (List.mem_of_getElem? (i := 30) rfl))) (notFace_of_selects (args := #[]) (mvT hZ (hw _ (List.mem_of_getElem? (i := 32) rfl)))) (mvT hZ (hw _ (List.mem_of_getElem? (i := 32) rfl))) (mvT hZ (hw _ (List.mem_of_getElem? (i := 31) rfl))) (by decide) (backOf (W := 0) (rm4 l Z a0 hw [] b19 ab1 T275.heap n0 Zh22 F_277) hZ (hw _ (List.mem_of_getElem? (i := 33) rfl)) (hw _ (List.mem_of_getElem? (i := 7) rfl)) (by decide) (by decide)) q286a q286c (g := (mkF m 252 #[.val (.int p1), .val (.int p2), .val (.int p3), .val (.int l1), .val (.int l2), .val (.int ch), .val (.int nu), .val (.ref n1), .val (.ref n2), .val (.int (ch.toInt8.toInt32)), .val (.ref b19), .val (.ref ab1), .val (.ref ab1), .val (.int ((l2 + (1 : Int32)) + (1 : Int32))), .val (.int (1 : Int32)), .unset] [(.ref b19)])) rfl (by rw [hml]; rfl) (Steps.refl _) (argsL := []) (rest := []) (lenOf pd_0_3 rfl) rfl (by show 2 * 0 + _ ≤ _; exact Nat.le_of_eq rfl) (hb hby at_252) (fun _ _ => ⟨rfl, rfl, (by decide : 5 + 0 ≤ _), (by decide : 23 + 0 ≤ _)⟩)
        dsimp only [Pt.U, Pt.locs, Pt.cells, Pt.slots] at X286 l286 y286 z286 st286 hQ286
        subst l286 y286 z286
        obtain ⟨rfl, N286q, hh286⟩ := hQ286
        have N286 := Fr.app N275 N286q
        have pre287 : own_Go p e below (s₁.setTop (entryFrame m #[(.int p1), (.int p2), (.int p3)] maxLocals)) (T286.setTop (mkF m 255 #[.val (.int p1), .val (.int p2), .val (.int p3), .val (.int l1), .val (.int l2), .val (.int ch), .val (.int nu), .val (.ref n1), .val (.ref n2), .val (.int (ch.toInt8.toInt32)), .val (.ref b19), .val (.ref ab1), .val (.ref ab1), .val (.int ((l2 + (1 : Int32)) + (1 : Int32))), .val (.int (1 : Int32)), .unset] [(.ref ab1)])) := fun t k => pre285 t (st286.trans k)
        have F_288 := F_277
        rw [← hh286] at F_288
        have F_289 := F_278
        rw [← hh286] at F_289
        have F_290 := F_279
        rw [← hh286] at F_290
        have Ex_291 := Ex_280
        rw [← hh286] at Ex_291
        have V_292 := V_281
        rw [← hh286] at V_292
        have V_293 := V_282
        rw [← hh286] at V_293
        have V_294 := V_283
        rw [← hh286] at V_294
        have V_295 := V275
        rw [← hh286] at V_295
        have K_296 := K_284
        rw [← hh286] at K_296
        have pre297 : own_Go p e below (s₁.setTop (entryFrame m #[(.int p1), (.int p2), (.int p3)] maxLocals)) (T286.setTop (mkF m 279 #[.val (.int p1), .val (.int p2), .val (.int p3), .val (.int l1), .val (.int l2), .val (.int ch), .val (.int nu), .val (.ref n1), .val (.ref n2), .val (.int (ch.toInt8.toInt32)), .val (.ref b19), .val (.ref ab1), .val (.ref ab1), .val (.int ((l2 + (1 : Int32)) + (1 : Int32))), .val (.int (1 : Int32)), .val (.ref ab1)] [(.int (l2 + (1 : Int32))), (.ref ab1)])) := fun t k => pre287 t (by
            show Steps p.tables e below (T286.setTop (mkF m 255 #[.val (.int p1), .val (.int p2), .val (.int p3), .val (.int l1), .val (.int l2), .val (.int ch), .val (.int nu), .val (.ref n1), .val (.ref n2), .val (.int (ch.toInt8.toInt32)), .val (.ref b19), .val (.ref ab1), .val (.ref ab1), .val (.int ((l2 + (1 : Int32)) + (1 : Int32))), .val (.int (1 : Int32)), .unset] [(.ref ab1)])) _
            refine XS.astore X286.here hx rfl (hb hby at_255) rfl rfl (l' := #[.val (.int p1), .val (.int p2), .val (.int p3), .val (.int l1), .val (.int l2), .val (.int ch), .val (.int nu), .val (.ref n1), .val (.ref n2), .val (.int (ch.toInt8.toInt32)), .val (.ref b19), .val (.ref ab1), .val (.ref ab1), .val (.int ((l2 + (1 : Int32)) + (1 : Int32))), .val (.int (1 : Int32)), .val (.ref ab1)]) rfl ?_
            show Steps p.tables e below (T286.setTop (mkF m 257 #[.val (.int p1), .val (.int p2), .val (.int p3), .val (.int l1), .val (.int l2), .val (.int ch), .val (.int nu), .val (.ref n1), .val (.ref n2), .val (.int (ch.toInt8.toInt32)), .val (.ref b19), .val (.ref ab1), .val (.ref ab1), .val (.int ((l2 + (1 : Int32)) + (1 : Int32))), .val (.int (1 : Int32)), .val (.ref ab1)] [])) _
            refine XS.aload X286.here hx rfl (hb hby at_257) rfl rfl ?_
            show Steps p.tables e below (T286.setTop (mkF m 259 #[.val (.int p1), .val (.int p2), .val (.int p3), .val (.int l1), .val (.int l2), .val (.int ch), .val (.int nu), .val (.ref n1), .val (.ref n2), .val (.int (ch.toInt8.toInt32)), .val (.ref b19), .val (.ref ab1), .val (.ref ab1), .val (.int ((l2 + (1 : Int32)) + (1 : Int32))), .val (.int (1 : Int32)), .val (.ref ab1)] [(.ref ab1)])) _
            refine XS.aload X286.here hx rfl (hb hby at_259) rfl rfl ?_
            show Steps p.tables e below (T286.setTop (mkF m 261 #[.val (.int p1), .val (.int p2), .val (.int p3), .val (.int l1), .val (.int l2), .val (.int ch), .val (.int nu), .val (.ref n1), .val (.ref n2), .val (.int (ch.toInt8.toInt32)), .val (.ref b19), .val (.ref ab1), .val (.ref ab1), .val (.int ((l2 + (1 : Int32)) + (1 : Int32))), .val (.int (1 : Int32)), .val (.ref ab1)] [(.ref ab1), (.ref ab1)])) _
            refine Jvm.RoadKit.acmp (g := (mkF m 261 #[.val (.int p1), .val (.int p2), .val (.int p3), .val (.int l1), .val (.int l2), .val (.int ch), .val (.int nu), .val (.ref n1), .val (.ref n2), .val (.int (ch.toInt8.toInt32)), .val (.ref b19), .val (.ref ab1), .val (.ref ab1), .val (.int ((l2 + (1 : Int32)) + (1 : Int32))), .val (.int (1 : Int32)), .val (.ref ab1)] [(.ref ab1), (.ref ab1)])) X286 hx rfl rfl rfl (pc0 := 261) (pc' := 266) (same := true) rfl (hb hby at_261) rfl (decide_eq_true rfl) (by decide) (by decide) ?_
            show Steps p.tables e below (T286.setTop (mkF m 266 #[.val (.int p1), .val (.int p2), .val (.int p3), .val (.int l1), .val (.int l2), .val (.int ch), .val (.int nu), .val (.ref n1), .val (.ref n2), .val (.int (ch.toInt8.toInt32)), .val (.ref b19), .val (.ref ab1), .val (.ref ab1), .val (.int ((l2 + (1 : Int32)) + (1 : Int32))), .val (.int (1 : Int32)), .val (.ref ab1)] [])) _
            refine XS.iload X286.here hx rfl (hb hby at_266) rfl ?_
            show Steps p.tables e below (T286.setTop (mkF m 268 #[.val (.int p1), .val (.int p2), .val (.int p3), .val (.int l1), .val (.int l2), .val (.int ch), .val (.int nu), .val (.ref n1), .val (.ref n2), .val (.int (ch.toInt8.toInt32)), .val (.ref b19), .val (.ref ab1), .val (.ref ab1), .val (.int ((l2 + (1 : Int32)) + (1 : Int32))), .val (.int (1 : Int32)), .val (.ref ab1)] [(.int nu)])) _
            refine XS.bipush X286.here hx rfl (hb hby at_268) ?_
            show Steps p.tables e below (T286.setTop (mkF m 270 #[.val (.int p1), .val (.int p2), .val (.int p3), .val (.int l1), .val (.int l2), .val (.int ch), .val (.int nu), .val (.ref n1), .val (.ref n2), .val (.int (ch.toInt8.toInt32)), .val (.ref b19), .val (.ref ab1), .val (.ref ab1), .val (.int ((l2 + (1 : Int32)) + (1 : Int32))), .val (.int (1 : Int32)), .val (.ref ab1)] [(.int (10 : Int32)), (.int nu)])) _
            refine XS.icmpNo X286.here hx rfl (hb hby at_270) rfl (XT.ii_ge_f hn) ?_
            show Steps p.tables e below (T286.setTop (mkF m 273 #[.val (.int p1), .val (.int p2), .val (.int p3), .val (.int l1), .val (.int l2), .val (.int ch), .val (.int nu), .val (.ref n1), .val (.ref n2), .val (.int (ch.toInt8.toInt32)), .val (.ref b19), .val (.ref ab1), .val (.ref ab1), .val (.int ((l2 + (1 : Int32)) + (1 : Int32))), .val (.int (1 : Int32)), .val (.ref ab1)] [])) _
            refine XS.aload X286.here hx rfl (hb hby at_273) rfl rfl ?_
            show Steps p.tables e below (T286.setTop (mkF m 275 #[.val (.int p1), .val (.int p2), .val (.int p3), .val (.int l1), .val (.int l2), .val (.int ch), .val (.int nu), .val (.ref n1), .val (.ref n2), .val (.int (ch.toInt8.toInt32)), .val (.ref b19), .val (.ref ab1), .val (.ref ab1), .val (.int ((l2 + (1 : Int32)) + (1 : Int32))), .val (.int (1 : Int32)), .val (.ref ab1)] [(.ref ab1)])) _
            refine XS.iload X286.here hx rfl (hb hby at_275) rfl ?_
            show Steps p.tables e below (T286.setTop (mkF m 277 #[.val (.int p1), .val (.int p2), .val (.int p3), .val (.int l1), .val (.int l2), .val (.int ch), .val (.int nu), .val (.ref n1), .val (.ref n2), .val (.int (ch.toInt8.toInt32)), .val (.ref b19), .val (.ref ab1), .val (.ref ab1), .val (.int ((l2 + (1 : Int32)) + (1 : Int32))), .val (.int (1 : Int32)), .val (.ref ab1)] [(.int l2), (.ref ab1)])) _
            refine XS.iconst X286.here hx rfl (hb hby at_277) ?_
            show Steps p.tables e below (T286.setTop (mkF m 278 #[.val (.int p1), .val (.int p2), .val (.int p3), .val (.int l1), .val (.int l2), .val (.int ch), .val (.int nu), .val (.ref n1), .val (.ref n2), .val (.int (ch.toInt8.toInt32)), .val (.ref b19), .val (.ref ab1), .val (.ref ab1), .val (.int ((l2 + (1 : Int32)) + (1 : Int32))), .val (.int (1 : Int32)), .val (.ref ab1)] [(.int (1 : Int32)), (.int l2), (.ref ab1)])) _
            refine XS.iadd X286.here hx rfl (hb hby at_278) rfl ?_
            exact k)
        obtain ⟨cl298, Ar298, hin298, hv298⟩ := own_A.at V_295 (j := (l2 + (1 : Int32))) (own_n0 (by omega)) (own_lt (by omega))
        have pre299 : own_Go p e below (s₁.setTop (entryFrame m #[(.int p1), (.int p2), (.int p3)] maxLocals)) (T286.setTop (mkF m 280 #[.val (.int p1), .val (.int p2), .val (.int p3), .val (.int l1), .val (.int l2), .val (.int ch), .val (.int nu), .val (.ref n1), .val (.ref n2), .val (.int (ch.toInt8.toInt32)), .val (.ref b19), .val (.ref ab1), .val (.ref ab1), .val (.int ((l2 + (1 : Int32)) + (1 : Int32))), .val (.int (1 : Int32)), .val (.ref ab1)] [(.int (((48 : Int32) + nu).toInt8.toInt32))])) := fun t k => pre297 t (X286.baloadBytes hx (j := (l2 + (1 : Int32))) (v := .int (((48 : Int32) + nu).toInt8.toInt32)) (by rw [show T286.heap = T286.heap from rfl]; exact Ar298.1) (State.isArrayOf_alike hZ.alike Ar298.2.1) Ar298.2.2 hin298 (hv298.trans (congrArg (fun z => some (Value.int z)) ((own_upd_hit _ _ rfl).trans (own_dig1 hnu.1 (by omega))))) (g := (mkF m 279 #[.val (.int p1), .val (.int p2), .val (.int p3), .val (.int l1), .val (.int l2), .val (.int ch), .val (.int nu), .val (.ref n1), .val (.ref n2), .val (.int (ch.toInt8.toInt32)), .val (.ref b19), .val (.ref ab1), .val (.ref ab1), .val (.int ((l2 + (1 : Int32)) + (1 : Int32))), .val (.int (1 : Int32)), .val (.ref ab1)] [(.int (l2 + (1 : Int32))), (.ref ab1)])) rfl rfl (hb hby at_279) t k)
        have pre300 : own_Go p e below (s₁.setTop (entryFrame m #[(.int p1), (.int p2), (.int p3)] maxLocals)) (T286.setTop (mkF m 294 #[.val (.int p1), .val (.int p2), .val (.int p3), .val (.int l1), .val (.int l2), .val (.int ch), .val (.int nu), .val (.ref n1), .val (.ref n2), .val (.int (ch.toInt8.toInt32)), .val (.ref b19), .val (.ref ab1), .val (.ref ab1), .val (.int ((l2 + (1 : Int32)) + (1 : Int32))), .val (.int (1 : Int32)), .val (.ref ab1)] [(.int (1 : Int32))])) := fun t k => pre299 t (by
            show Steps p.tables e below (T286.setTop (mkF m 280 #[.val (.int p1), .val (.int p2), .val (.int p3), .val (.int l1), .val (.int l2), .val (.int ch), .val (.int nu), .val (.ref n1), .val (.ref n2), .val (.int (ch.toInt8.toInt32)), .val (.ref b19), .val (.ref ab1), .val (.ref ab1), .val (.int ((l2 + (1 : Int32)) + (1 : Int32))), .val (.int (1 : Int32)), .val (.ref ab1)] [(.int (((48 : Int32) + nu).toInt8.toInt32))])) _
            refine XS.bipush X286.here hx rfl (hb hby at_280) ?_
            show Steps p.tables e below (T286.setTop (mkF m 282 #[.val (.int p1), .val (.int p2), .val (.int p3), .val (.int l1), .val (.int l2), .val (.int ch), .val (.int nu), .val (.ref n1), .val (.ref n2), .val (.int (ch.toInt8.toInt32)), .val (.ref b19), .val (.ref ab1), .val (.ref ab1), .val (.int ((l2 + (1 : Int32)) + (1 : Int32))), .val (.int (1 : Int32)), .val (.ref ab1)] [(.int (48 : Int32)), (.int (((48 : Int32) + nu).toInt8.toInt32))])) _
            refine XS.iload X286.here hx rfl (hb hby at_282) rfl ?_
            show Steps p.tables e below (T286.setTop (mkF m 284 #[.val (.int p1), .val (.int p2), .val (.int p3), .val (.int l1), .val (.int l2), .val (.int ch), .val (.int nu), .val (.ref n1), .val (.ref n2), .val (.int (ch.toInt8.toInt32)), .val (.ref b19), .val (.ref ab1), .val (.ref ab1), .val (.int ((l2 + (1 : Int32)) + (1 : Int32))), .val (.int (1 : Int32)), .val (.ref ab1)] [(.int nu), (.int (48 : Int32)), (.int (((48 : Int32) + nu).toInt8.toInt32))])) _
            refine XS.iadd X286.here hx rfl (hb hby at_284) rfl ?_
            show Steps p.tables e below (T286.setTop (mkF m 285 #[.val (.int p1), .val (.int p2), .val (.int p3), .val (.int l1), .val (.int l2), .val (.int ch), .val (.int nu), .val (.ref n1), .val (.ref n2), .val (.int (ch.toInt8.toInt32)), .val (.ref b19), .val (.ref ab1), .val (.ref ab1), .val (.int ((l2 + (1 : Int32)) + (1 : Int32))), .val (.int (1 : Int32)), .val (.ref ab1)] [(.int ((48 : Int32) + nu)), (.int (((48 : Int32) + nu).toInt8.toInt32))])) _
            refine XT.i2b X286.here hx rfl (hb hby at_285) rfl ?_
            show Steps p.tables e below (T286.setTop (mkF m 286 #[.val (.int p1), .val (.int p2), .val (.int p3), .val (.int l1), .val (.int l2), .val (.int ch), .val (.int nu), .val (.ref n1), .val (.ref n2), .val (.int (ch.toInt8.toInt32)), .val (.ref b19), .val (.ref ab1), .val (.ref ab1), .val (.int ((l2 + (1 : Int32)) + (1 : Int32))), .val (.int (1 : Int32)), .val (.ref ab1)] [(.int (((48 : Int32) + nu).toInt8.toInt32)), (.int (((48 : Int32) + nu).toInt8.toInt32))])) _
            refine XS.icmpNo X286.here hx rfl (hb hby at_286) rfl (XT.ii_ne_f rfl) ?_
            show Steps p.tables e below (T286.setTop (mkF m 289 #[.val (.int p1), .val (.int p2), .val (.int p3), .val (.int l1), .val (.int l2), .val (.int ch), .val (.int nu), .val (.ref n1), .val (.ref n2), .val (.int (ch.toInt8.toInt32)), .val (.ref b19), .val (.ref ab1), .val (.ref ab1), .val (.int ((l2 + (1 : Int32)) + (1 : Int32))), .val (.int (1 : Int32)), .val (.ref ab1)] [])) _
            refine XS.iconst X286.here hx rfl (hb hby at_289) ?_
            show Steps p.tables e below (T286.setTop (mkF m 290 #[.val (.int p1), .val (.int p2), .val (.int p3), .val (.int l1), .val (.int l2), .val (.int ch), .val (.int nu), .val (.ref n1), .val (.ref n2), .val (.int (ch.toInt8.toInt32)), .val (.ref b19), .val (.ref ab1), .val (.ref ab1), .val (.int ((l2 + (1 : Int32)) + (1 : Int32))), .val (.int (1 : Int32)), .val (.ref ab1)] [(.int (1 : Int32))])) _
            refine XS.goto X286.here hx rfl (pc0 := 290) (pc' := 294) rfl (hb hby at_290) (by decide) (by decide) ?_
            exact k)
        obtain ⟨fs, hr, hrun, hended, hW, hsame⟩ := X286.leave (v := some (.int (1 : Int32))) (fun h => by rw [Bd.returns] at h; cases h)
        refine ⟨_, _, pre300 _ ?_, hrun, hended, _, _, rfl, ?_, ⟨_, rfl⟩, hW, hsame.mono (by decide) (by decide)⟩
        · show Steps p.tables e below (T286.setTop (mkF m 294 #[.val (.int p1), .val (.int p2), .val (.int p3), .val (.int l1), .val (.int l2), .val (.int ch), .val (.int nu), .val (.ref n1), .val (.ref n2), .val (.int (ch.toInt8.toInt32)), .val (.ref b19), .val (.ref ab1), .val (.ref ab1), .val (.int ((l2 + (1 : Int32)) + (1 : Int32))), .val (.int (1 : Int32)), .val (.ref ab1)] [(.int (1 : Int32))])) _
          exact retN X286 hx (t := .boolean) Bd.returns (by simp) (hb hby at_294) hr
        · show Q0 Z p1 p2 p3 h0 n0 _ T286.heap _
          exact ⟨rfl, N286⟩
      · skip
        have hn' := hn
        rw [Int32.lt_iff_toInt_lt] at hn'
        have Zh23 : n0 ≤ T199.heap.size := Nat.le_trans Z0 K_209.1
        obtain ⟨cq301, kq301, q301a, q301b, q301c⟩ := isOf hZ rfl Ex_204
        obtain ⟨_, _, ⟨T301, L301, k301, n301⟩, -, X301, ⟨Lc301, hQ301, l301, y301, z301⟩, st301⟩ := X199.virtualBack hx (y := (⟨"com/example/gyre/gyre/NodeLabel", "withNumber", "(I)I"⟩ : MethodName)) (z := (⟨"com/example/gyre/gyre/NodeLabel", "withNumber", "(I)I"⟩ : MethodName)) hown (mvT hZ (hw _ (List.mem_of_getElem? (i := 37) rfl))) (mvT hZ (hw _ (List.mem_of_getElem? (i := 38) rfl))) (notFace_of_selects (args := #[]) (mvT hZ (hw _ (List.mem_of_getElem? (i := 40) rfl)))) (mvT hZ (hw _ (List.mem_of_getElem? (i := 40) rfl))) (mvT hZ (hw _ (List.mem_of_getElem? (i := 39) rfl))) (by decide) (backOf (W := 0) (rm8 l Z a0 hw [] b19 ab1 nu (l2 + (1 : Int32)) (l1 + (11 : Int32)) _ T199.heap n0 Zh23 F_201 F_203 V_208 g_ab1 ne_b19_ab1 ⟨by omega, by omega⟩ ⟨by omega, by omega⟩ (by omega)) hZ (hw _ (List.mem_of_getElem? (i := 41) rfl)) (hw _ (List.mem_of_getElem? (i := 7) rfl)) (by decide) (by decide)) q301a q301c (g := (mkF m 217 #[.val (.int p1), .val (.int p2), .val (.int p3), .val (.int l1), .val (.int l2), .val (.int ch), .val (.int nu), .val (.ref n1), .val (.ref n2), .val (.int (ch.toInt8.toInt32)), .val (.ref b19), .val (.ref ab1), .val (.ref ab1), .unset, .unset, .unset] [(.int nu), (.ref b19)])) rfl (by rw [hml]; rfl) (Steps.refl _) (argsL := [(.int nu)]) (rest := []) (lenOf pd_0_5 rfl) rfl (by show 2 * 0 + _ ≤ _; exact Nat.le_of_eq rfl) (hb hby at_217) (fun _ _ => ⟨rfl, rfl, (by decide : 5 + 0 ≤ _), (by decide : 23 + 0 ≤ _)⟩)
        dsimp only [Pt.U, Pt.locs, Pt.cells, Pt.slots] at X301 l301 y301 z301 st301 hQ301
        subst l301 y301 z301
        obtain ⟨rfl, N301q, K301, V301⟩ := hQ301
        have N301 := Fr.app N199 N301q
        have pre302 : own_Go p e below (s₁.setTop (entryFrame m #[(.int p1), (.int p2), (.int p3)] maxLocals)) (T301.setTop (mkF m 220 #[.val (.int p1), .val (.int p2), .val (.int p3), .val (.int l1), .val (.int l2), .val (.int ch), .val (.int nu), .val (.ref n1), .val (.ref n2), .val (.int (ch.toInt8.toInt32)), .val (.ref b19), .val (.ref ab1), .val (.ref ab1), .unset, .unset, .unset] [(.int ((l2 + (1 : Int32)) + (2 : Int32)))])) := fun t k => pre274 t (st301.trans k)
        have F_303 := F_201.keep K301 (ninS ne_b19_ab1 nin0)
        have F_304 := F_202.keep K301 (ninS ne_b19_ab1 nin0)
        have F_305 := F_203.keep K301 (ninS ne_b19_ab1 nin0)
        have Ex_306 := Ex_204.keep K301
        have V_307 := V_205.keep K301 (ninS ne_n1_ab1 nin0)
        have V_308 := V_206.keep K301 (ninS ne_n2_ab1 nin0)
        have V_309 := V_207.keep K301 (ninS ne_ab0_ab1 nin0)
        have K_310 := K_209.trans K301 (allS (Or.inr sz_ab1) all0)
        have Zh24 : n0 ≤ T301.heap.size := Nat.le_trans Z0 K_310.1
        have pre311 : own_Go p e below (s₁.setTop (entryFrame m #[(.int p1), (.int p2), (.int p3)] maxLocals)) (T301.setTop (mkF m 252 #[.val (.int p1), .val (.int p2), .val (.int p3), .val (.int l1), .val (.int l2), .val (.int ch), .val (.int nu), .val (.ref n1), .val (.ref n2), .val (.int (ch.toInt8.toInt32)), .val (.ref b19), .val (.ref ab1), .val (.ref ab1), .val (.int ((l2 + (1 : Int32)) + (2 : Int32))), .val (.int (2 : Int32)), .unset] [(.ref b19)])) := fun t k => pre302 t (by
            show Steps p.tables e below (T301.setTop (mkF m 220 #[.val (.int p1), .val (.int p2), .val (.int p3), .val (.int l1), .val (.int l2), .val (.int ch), .val (.int nu), .val (.ref n1), .val (.ref n2), .val (.int (ch.toInt8.toInt32)), .val (.ref b19), .val (.ref ab1), .val (.ref ab1), .unset, .unset, .unset] [(.int ((l2 + (1 : Int32)) + (2 : Int32)))])) _
            refine XS.istore X301.here hx rfl (hb hby at_220) rfl (l' := #[.val (.int p1), .val (.int p2), .val (.int p3), .val (.int l1), .val (.int l2), .val (.int ch), .val (.int nu), .val (.ref n1), .val (.ref n2), .val (.int (ch.toInt8.toInt32)), .val (.ref b19), .val (.ref ab1), .val (.ref ab1), .val (.int ((l2 + (1 : Int32)) + (2 : Int32))), .unset, .unset]) rfl ?_
            show Steps p.tables e below (T301.setTop (mkF m 222 #[.val (.int p1), .val (.int p2), .val (.int p3), .val (.int l1), .val (.int l2), .val (.int ch), .val (.int nu), .val (.ref n1), .val (.ref n2), .val (.int (ch.toInt8.toInt32)), .val (.ref b19), .val (.ref ab1), .val (.ref ab1), .val (.int ((l2 + (1 : Int32)) + (2 : Int32))), .unset, .unset] [])) _
            refine XS.iload X301.here hx rfl (hb hby at_222) rfl ?_
            show Steps p.tables e below (T301.setTop (mkF m 224 #[.val (.int p1), .val (.int p2), .val (.int p3), .val (.int l1), .val (.int l2), .val (.int ch), .val (.int nu), .val (.ref n1), .val (.ref n2), .val (.int (ch.toInt8.toInt32)), .val (.ref b19), .val (.ref ab1), .val (.ref ab1), .val (.int ((l2 + (1 : Int32)) + (2 : Int32))), .unset, .unset] [(.int nu)])) _
            refine XS.bipush X301.here hx rfl (hb hby at_224) ?_
            show Steps p.tables e below (T301.setTop (mkF m 226 #[.val (.int p1), .val (.int p2), .val (.int p3), .val (.int l1), .val (.int l2), .val (.int ch), .val (.int nu), .val (.ref n1), .val (.ref n2), .val (.int (ch.toInt8.toInt32)), .val (.ref b19), .val (.ref ab1), .val (.ref ab1), .val (.int ((l2 + (1 : Int32)) + (2 : Int32))), .unset, .unset] [(.int (10 : Int32)), (.int nu)])) _
            refine XS.icmpYes X301.here hx rfl (pc0 := 226) (pc' := 233) rfl (hb hby at_226) rfl (XT.ii_ge_t hn) (by decide) (by decide) ?_
            show Steps p.tables e below (T301.setTop (mkF m 233 #[.val (.int p1), .val (.int p2), .val (.int p3), .val (.int l1), .val (.int l2), .val (.int ch), .val (.int nu), .val (.ref n1), .val (.ref n2), .val (.int (ch.toInt8.toInt32)), .val (.ref b19), .val (.ref ab1), .val (.ref ab1), .val (.int ((l2 + (1 : Int32)) + (2 : Int32))), .unset, .unset] [])) _
            refine XS.iconst X301.here hx rfl (hb hby at_233) ?_
            show Steps p.tables e below (T301.setTop (mkF m 234 #[.val (.int p1), .val (.int p2), .val (.int p3), .val (.int l1), .val (.int l2), .val (.int ch), .val (.int nu), .val (.ref n1), .val (.ref n2), .val (.int (ch.toInt8.toInt32)), .val (.ref b19), .val (.ref ab1), .val (.ref ab1), .val (.int ((l2 + (1 : Int32)) + (2 : Int32))), .unset, .unset] [(.int (2 : Int32))])) _
            refine XS.istore X301.here hx rfl (hb hby at_234) rfl (l' := #[.val (.int p1), .val (.int p2), .val (.int p3), .val (.int l1), .val (.int l2), .val (.int ch), .val (.int nu), .val (.ref n1), .val (.ref n2), .val (.int (ch.toInt8.toInt32)), .val (.ref b19), .val (.ref ab1), .val (.ref ab1), .val (.int ((l2 + (1 : Int32)) + (2 : Int32))), .val (.int (2 : Int32)), .unset]) rfl ?_
            show Steps p.tables e below (T301.setTop (mkF m 236 #[.val (.int p1), .val (.int p2), .val (.int p3), .val (.int l1), .val (.int l2), .val (.int ch), .val (.int nu), .val (.ref n1), .val (.ref n2), .val (.int (ch.toInt8.toInt32)), .val (.ref b19), .val (.ref ab1), .val (.ref ab1), .val (.int ((l2 + (1 : Int32)) + (2 : Int32))), .val (.int (2 : Int32)), .unset] [])) _
            refine XS.iload X301.here hx rfl (hb hby at_236) rfl ?_
            show Steps p.tables e below (T301.setTop (mkF m 238 #[.val (.int p1), .val (.int p2), .val (.int p3), .val (.int l1), .val (.int l2), .val (.int ch), .val (.int nu), .val (.ref n1), .val (.ref n2), .val (.int (ch.toInt8.toInt32)), .val (.ref b19), .val (.ref ab1), .val (.ref ab1), .val (.int ((l2 + (1 : Int32)) + (2 : Int32))), .val (.int (2 : Int32)), .unset] [(.int ((l2 + (1 : Int32)) + (2 : Int32)))])) _
            refine XS.iload X301.here hx rfl (hb hby at_238) rfl ?_
            show Steps p.tables e below (T301.setTop (mkF m 240 #[.val (.int p1), .val (.int p2), .val (.int p3), .val (.int l1), .val (.int l2), .val (.int ch), .val (.int nu), .val (.ref n1), .val (.ref n2), .val (.int (ch.toInt8.toInt32)), .val (.ref b19), .val (.ref ab1), .val (.ref ab1), .val (.int ((l2 + (1 : Int32)) + (2 : Int32))), .val (.int (2 : Int32)), .unset] [(.int l2), (.int ((l2 + (1 : Int32)) + (2 : Int32)))])) _
            refine XS.iconst X301.here hx rfl (hb hby at_240) ?_
            show Steps p.tables e below (T301.setTop (mkF m 241 #[.val (.int p1), .val (.int p2), .val (.int p3), .val (.int l1), .val (.int l2), .val (.int ch), .val (.int nu), .val (.ref n1), .val (.ref n2), .val (.int (ch.toInt8.toInt32)), .val (.ref b19), .val (.ref ab1), .val (.ref ab1), .val (.int ((l2 + (1 : Int32)) + (2 : Int32))), .val (.int (2 : Int32)), .unset] [(.int (1 : Int32)), (.int l2), (.int ((l2 + (1 : Int32)) + (2 : Int32)))])) _
            refine XS.iadd X301.here hx rfl (hb hby at_241) rfl ?_
            show Steps p.tables e below (T301.setTop (mkF m 242 #[.val (.int p1), .val (.int p2), .val (.int p3), .val (.int l1), .val (.int l2), .val (.int ch), .val (.int nu), .val (.ref n1), .val (.ref n2), .val (.int (ch.toInt8.toInt32)), .val (.ref b19), .val (.ref ab1), .val (.ref ab1), .val (.int ((l2 + (1 : Int32)) + (2 : Int32))), .val (.int (2 : Int32)), .unset] [(.int (l2 + (1 : Int32))), (.int ((l2 + (1 : Int32)) + (2 : Int32)))])) _
            refine XS.iload X301.here hx rfl (hb hby at_242) rfl ?_
            show Steps p.tables e below (T301.setTop (mkF m 244 #[.val (.int p1), .val (.int p2), .val (.int p3), .val (.int l1), .val (.int l2), .val (.int ch), .val (.int nu), .val (.ref n1), .val (.ref n2), .val (.int (ch.toInt8.toInt32)), .val (.ref b19), .val (.ref ab1), .val (.ref ab1), .val (.int ((l2 + (1 : Int32)) + (2 : Int32))), .val (.int (2 : Int32)), .unset] [(.int (2 : Int32)), (.int (l2 + (1 : Int32))), (.int ((l2 + (1 : Int32)) + (2 : Int32)))])) _
            refine XS.iadd X301.here hx rfl (hb hby at_244) rfl ?_
            show Steps p.tables e below (T301.setTop (mkF m 245 #[.val (.int p1), .val (.int p2), .val (.int p3), .val (.int l1), .val (.int l2), .val (.int ch), .val (.int nu), .val (.ref n1), .val (.ref n2), .val (.int (ch.toInt8.toInt32)), .val (.ref b19), .val (.ref ab1), .val (.ref ab1), .val (.int ((l2 + (1 : Int32)) + (2 : Int32))), .val (.int (2 : Int32)), .unset] [(.int ((l2 + (1 : Int32)) + (2 : Int32))), (.int ((l2 + (1 : Int32)) + (2 : Int32)))])) _
            refine XS.icmpYes X301.here hx rfl (pc0 := 245) (pc' := 250) rfl (hb hby at_245) rfl (XT.ii_eq_t rfl) (by decide) (by decide) ?_
            show Steps p.tables e below (T301.setTop (mkF m 250 #[.val (.int p1), .val (.int p2), .val (.int p3), .val (.int l1), .val (.int l2), .val (.int ch), .val (.int nu), .val (.ref n1), .val (.ref n2), .val (.int (ch.toInt8.toInt32)), .val (.ref b19), .val (.ref ab1), .val (.ref ab1), .val (.int ((l2 + (1 : Int32)) + (2 : Int32))), .val (.int (2 : Int32)), .unset] [])) _
            refine XS.aload X301.here hx rfl (hb hby at_250) rfl rfl ?_
            exact k)
        obtain ⟨cq312, kq312, q312a, q312b, q312c⟩ := isOf hZ rfl Ex_306
        obtain ⟨_, _, ⟨T312, L312, k312, n312⟩, -, X312, ⟨Lc312, hQ312, l312, y312, z312⟩, st312⟩ := X301.virtualBack hx (y := (⟨"com/example/gyre/gyre/NodeLabel", "bytes", "()[B"⟩ : MethodName)) (z := (⟨"com/example/gyre/gyre/NodeLabel", "bytes", "()[B"⟩ : MethodName)) hown (mvT hZ (hw _ (List.mem_of_getElem? (i := 29) rfl))) (mvT hZ (hw _ (List.mem_of_getElem? (i := 30) rfl))) (notFace_of_selects (args := #[]) (mvT hZ (hw _ (List.mem_of_getElem? (i := 32) rfl)))) (mvT hZ (hw _ (List.mem_of_getElem? (i := 32) rfl))) (mvT hZ (hw _ (List.mem_of_getElem? (i := 31) rfl))) (by decide) (backOf (W := 0) (rm4 l Z a0 hw [] b19 ab1 T301.heap n0 Zh24 F_303) hZ (hw _ (List.mem_of_getElem? (i := 33) rfl)) (hw _ (List.mem_of_getElem? (i := 7) rfl)) (by decide) (by decide)) q312a q312c (g := (mkF m 252 #[.val (.int p1), .val (.int p2), .val (.int p3), .val (.int l1), .val (.int l2), .val (.int ch), .val (.int nu), .val (.ref n1), .val (.ref n2), .val (.int (ch.toInt8.toInt32)), .val (.ref b19), .val (.ref ab1), .val (.ref ab1), .val (.int ((l2 + (1 : Int32)) + (2 : Int32))), .val (.int (2 : Int32)), .unset] [(.ref b19)])) rfl (by rw [hml]; rfl) (Steps.refl _) (argsL := []) (rest := []) (lenOf pd_0_3 rfl) rfl (by show 2 * 0 + _ ≤ _; exact Nat.le_of_eq rfl) (hb hby at_252) (fun _ _ => ⟨rfl, rfl, (by decide : 5 + 0 ≤ _), (by decide : 23 + 0 ≤ _)⟩)
        dsimp only [Pt.U, Pt.locs, Pt.cells, Pt.slots] at X312 l312 y312 z312 st312 hQ312
        subst l312 y312 z312
        obtain ⟨rfl, N312q, hh312⟩ := hQ312
        have N312 := Fr.app N301 N312q
        have pre313 : own_Go p e below (s₁.setTop (entryFrame m #[(.int p1), (.int p2), (.int p3)] maxLocals)) (T312.setTop (mkF m 255 #[.val (.int p1), .val (.int p2), .val (.int p3), .val (.int l1), .val (.int l2), .val (.int ch), .val (.int nu), .val (.ref n1), .val (.ref n2), .val (.int (ch.toInt8.toInt32)), .val (.ref b19), .val (.ref ab1), .val (.ref ab1), .val (.int ((l2 + (1 : Int32)) + (2 : Int32))), .val (.int (2 : Int32)), .unset] [(.ref ab1)])) := fun t k => pre311 t (st312.trans k)
        have F_314 := F_303
        rw [← hh312] at F_314
        have F_315 := F_304
        rw [← hh312] at F_315
        have F_316 := F_305
        rw [← hh312] at F_316
        have Ex_317 := Ex_306
        rw [← hh312] at Ex_317
        have V_318 := V_307
        rw [← hh312] at V_318
        have V_319 := V_308
        rw [← hh312] at V_319
        have V_320 := V_309
        rw [← hh312] at V_320
        have V_321 := V301
        rw [← hh312] at V_321
        have K_322 := K_310
        rw [← hh312] at K_322
        have qd1 := own_div10 (x := nu) hnu.1
        have pre323 : own_Go p e below (s₁.setTop (entryFrame m #[(.int p1), (.int p2), (.int p3)] maxLocals)) (T312.setTop (mkF m 301 #[.val (.int p1), .val (.int p2), .val (.int p3), .val (.int l1), .val (.int l2), .val (.int ch), .val (.int nu), .val (.ref n1), .val (.ref n2), .val (.int (ch.toInt8.toInt32)), .val (.ref b19), .val (.ref ab1), .val (.ref ab1), .val (.int ((l2 + (1 : Int32)) + (2 : Int32))), .val (.int (2 : Int32)), .val (.ref ab1)] [(.int (l2 + (1 : Int32))), (.ref ab1)])) := fun t k => pre313 t (by
            show Steps p.tables e below (T312.setTop (mkF m 255 #[.val (.int p1), .val (.int p2), .val (.int p3), .val (.int l1), .val (.int l2), .val (.int ch), .val (.int nu), .val (.ref n1), .val (.ref n2), .val (.int (ch.toInt8.toInt32)), .val (.ref b19), .val (.ref ab1), .val (.ref ab1), .val (.int ((l2 + (1 : Int32)) + (2 : Int32))), .val (.int (2 : Int32)), .unset] [(.ref ab1)])) _
            refine XS.astore X312.here hx rfl (hb hby at_255) rfl rfl (l' := #[.val (.int p1), .val (.int p2), .val (.int p3), .val (.int l1), .val (.int l2), .val (.int ch), .val (.int nu), .val (.ref n1), .val (.ref n2), .val (.int (ch.toInt8.toInt32)), .val (.ref b19), .val (.ref ab1), .val (.ref ab1), .val (.int ((l2 + (1 : Int32)) + (2 : Int32))), .val (.int (2 : Int32)), .val (.ref ab1)]) rfl ?_
            show Steps p.tables e below (T312.setTop (mkF m 257 #[.val (.int p1), .val (.int p2), .val (.int p3), .val (.int l1), .val (.int l2), .val (.int ch), .val (.int nu), .val (.ref n1), .val (.ref n2), .val (.int (ch.toInt8.toInt32)), .val (.ref b19), .val (.ref ab1), .val (.ref ab1), .val (.int ((l2 + (1 : Int32)) + (2 : Int32))), .val (.int (2 : Int32)), .val (.ref ab1)] [])) _
            refine XS.aload X312.here hx rfl (hb hby at_257) rfl rfl ?_
            show Steps p.tables e below (T312.setTop (mkF m 259 #[.val (.int p1), .val (.int p2), .val (.int p3), .val (.int l1), .val (.int l2), .val (.int ch), .val (.int nu), .val (.ref n1), .val (.ref n2), .val (.int (ch.toInt8.toInt32)), .val (.ref b19), .val (.ref ab1), .val (.ref ab1), .val (.int ((l2 + (1 : Int32)) + (2 : Int32))), .val (.int (2 : Int32)), .val (.ref ab1)] [(.ref ab1)])) _
            refine XS.aload X312.here hx rfl (hb hby at_259) rfl rfl ?_
            show Steps p.tables e below (T312.setTop (mkF m 261 #[.val (.int p1), .val (.int p2), .val (.int p3), .val (.int l1), .val (.int l2), .val (.int ch), .val (.int nu), .val (.ref n1), .val (.ref n2), .val (.int (ch.toInt8.toInt32)), .val (.ref b19), .val (.ref ab1), .val (.ref ab1), .val (.int ((l2 + (1 : Int32)) + (2 : Int32))), .val (.int (2 : Int32)), .val (.ref ab1)] [(.ref ab1), (.ref ab1)])) _
            refine Jvm.RoadKit.acmp (g := (mkF m 261 #[.val (.int p1), .val (.int p2), .val (.int p3), .val (.int l1), .val (.int l2), .val (.int ch), .val (.int nu), .val (.ref n1), .val (.ref n2), .val (.int (ch.toInt8.toInt32)), .val (.ref b19), .val (.ref ab1), .val (.ref ab1), .val (.int ((l2 + (1 : Int32)) + (2 : Int32))), .val (.int (2 : Int32)), .val (.ref ab1)] [(.ref ab1), (.ref ab1)])) X312 hx rfl rfl rfl (pc0 := 261) (pc' := 266) (same := true) rfl (hb hby at_261) rfl (decide_eq_true rfl) (by decide) (by decide) ?_
            show Steps p.tables e below (T312.setTop (mkF m 266 #[.val (.int p1), .val (.int p2), .val (.int p3), .val (.int l1), .val (.int l2), .val (.int ch), .val (.int nu), .val (.ref n1), .val (.ref n2), .val (.int (ch.toInt8.toInt32)), .val (.ref b19), .val (.ref ab1), .val (.ref ab1), .val (.int ((l2 + (1 : Int32)) + (2 : Int32))), .val (.int (2 : Int32)), .val (.ref ab1)] [])) _
            refine XS.iload X312.here hx rfl (hb hby at_266) rfl ?_
            show Steps p.tables e below (T312.setTop (mkF m 268 #[.val (.int p1), .val (.int p2), .val (.int p3), .val (.int l1), .val (.int l2), .val (.int ch), .val (.int nu), .val (.ref n1), .val (.ref n2), .val (.int (ch.toInt8.toInt32)), .val (.ref b19), .val (.ref ab1), .val (.ref ab1), .val (.int ((l2 + (1 : Int32)) + (2 : Int32))), .val (.int (2 : Int32)), .val (.ref ab1)] [(.int nu)])) _
            refine XS.bipush X312.here hx rfl (hb hby at_268) ?_
            show Steps p.tables e below (T312.setTop (mkF m 270 #[.val (.int p1), .val (.int p2), .val (.int p3), .val (.int l1), .val (.int l2), .val (.int ch), .val (.int nu), .val (.ref n1), .val (.ref n2), .val (.int (ch.toInt8.toInt32)), .val (.ref b19), .val (.ref ab1), .val (.ref ab1), .val (.int ((l2 + (1 : Int32)) + (2 : Int32))), .val (.int (2 : Int32)), .val (.ref ab1)] [(.int (10 : Int32)), (.int nu)])) _
            refine XS.icmpYes X312.here hx rfl (pc0 := 270) (pc' := 295) rfl (hb hby at_270) rfl (XT.ii_ge_t hn) (by decide) (by decide) ?_
            show Steps p.tables e below (T312.setTop (mkF m 295 #[.val (.int p1), .val (.int p2), .val (.int p3), .val (.int l1), .val (.int l2), .val (.int ch), .val (.int nu), .val (.ref n1), .val (.ref n2), .val (.int (ch.toInt8.toInt32)), .val (.ref b19), .val (.ref ab1), .val (.ref ab1), .val (.int ((l2 + (1 : Int32)) + (2 : Int32))), .val (.int (2 : Int32)), .val (.ref ab1)] [])) _
            refine XS.aload X312.here hx rfl (hb hby at_295) rfl rfl ?_
            show Steps p.tables e below (T312.setTop (mkF m 297 #[.val (.int p1), .val (.int p2), .val (.int p3), .val (.int l1), .val (.int l2), .val (.int ch), .val (.int nu), .val (.ref n1), .val (.ref n2), .val (.int (ch.toInt8.toInt32)), .val (.ref b19), .val (.ref ab1), .val (.ref ab1), .val (.int ((l2 + (1 : Int32)) + (2 : Int32))), .val (.int (2 : Int32)), .val (.ref ab1)] [(.ref ab1)])) _
            refine XS.iload X312.here hx rfl (hb hby at_297) rfl ?_
            show Steps p.tables e below (T312.setTop (mkF m 299 #[.val (.int p1), .val (.int p2), .val (.int p3), .val (.int l1), .val (.int l2), .val (.int ch), .val (.int nu), .val (.ref n1), .val (.ref n2), .val (.int (ch.toInt8.toInt32)), .val (.ref b19), .val (.ref ab1), .val (.ref ab1), .val (.int ((l2 + (1 : Int32)) + (2 : Int32))), .val (.int (2 : Int32)), .val (.ref ab1)] [(.int l2), (.ref ab1)])) _
            refine XS.iconst X312.here hx rfl (hb hby at_299) ?_
            show Steps p.tables e below (T312.setTop (mkF m 300 #[.val (.int p1), .val (.int p2), .val (.int p3), .val (.int l1), .val (.int l2), .val (.int ch), .val (.int nu), .val (.ref n1), .val (.ref n2), .val (.int (ch.toInt8.toInt32)), .val (.ref b19), .val (.ref ab1), .val (.ref ab1), .val (.int ((l2 + (1 : Int32)) + (2 : Int32))), .val (.int (2 : Int32)), .val (.ref ab1)] [(.int (1 : Int32)), (.int l2), (.ref ab1)])) _
            refine XS.iadd X312.here hx rfl (hb hby at_300) rfl ?_
            exact k)
        obtain ⟨cl324, Ar324, hin324, hv324⟩ := own_A.at V_321 (j := (l2 + (1 : Int32))) (own_n0 (by omega)) (own_lt (by omega))
        have pre325 : own_Go p e below (s₁.setTop (entryFrame m #[(.int p1), (.int p2), (.int p3)] maxLocals)) (T312.setTop (mkF m 302 #[.val (.int p1), .val (.int p2), .val (.int p3), .val (.int l1), .val (.int l2), .val (.int ch), .val (.int nu), .val (.ref n1), .val (.ref n2), .val (.int (ch.toInt8.toInt32)), .val (.ref b19), .val (.ref ab1), .val (.ref ab1), .val (.int ((l2 + (1 : Int32)) + (2 : Int32))), .val (.int (2 : Int32)), .val (.ref ab1)] [(.int (((48 : Int32) + (nu / (10 : Int32))).toInt8.toInt32))])) := fun t k => pre323 t (X312.baloadBytes hx (j := (l2 + (1 : Int32))) (v := .int (((48 : Int32) + (nu / (10 : Int32))).toInt8.toInt32)) (by rw [show T312.heap = T312.heap from rfl]; exact Ar324.1) (State.isArrayOf_alike hZ.alike Ar324.2.1) Ar324.2.2 hin324 (hv324.trans (congrArg (fun z => some (Value.int z)) ((own_upd_hit _ _ rfl).trans (own_dig1 (by omega) (by omega))))) (g := (mkF m 301 #[.val (.int p1), .val (.int p2), .val (.int p3), .val (.int l1), .val (.int l2), .val (.int ch), .val (.int nu), .val (.ref n1), .val (.ref n2), .val (.int (ch.toInt8.toInt32)), .val (.ref b19), .val (.ref ab1), .val (.ref ab1), .val (.int ((l2 + (1 : Int32)) + (2 : Int32))), .val (.int (2 : Int32)), .val (.ref ab1)] [(.int (l2 + (1 : Int32))), (.ref ab1)])) rfl rfl (hb hby at_301) t k)
        have pre326 : own_Go p e below (s₁.setTop (entryFrame m #[(.int p1), (.int p2), (.int p3)] maxLocals)) (T312.setTop (mkF m 320 #[.val (.int p1), .val (.int p2), .val (.int p3), .val (.int l1), .val (.int l2), .val (.int ch), .val (.int nu), .val (.ref n1), .val (.ref n2), .val (.int (ch.toInt8.toInt32)), .val (.ref b19), .val (.ref ab1), .val (.ref ab1), .val (.int ((l2 + (1 : Int32)) + (2 : Int32))), .val (.int (2 : Int32)), .val (.ref ab1)] [(.int (l2 + (2 : Int32))), (.ref ab1)])) := fun t k => pre325 t (by
            show Steps p.tables e below (T312.setTop (mkF m 302 #[.val (.int p1), .val (.int p2), .val (.int p3), .val (.int l1), .val (.int l2), .val (.int ch), .val (.int nu), .val (.ref n1), .val (.ref n2), .val (.int (ch.toInt8.toInt32)), .val (.ref b19), .val (.ref ab1), .val (.ref ab1), .val (.int ((l2 + (1 : Int32)) + (2 : Int32))), .val (.int (2 : Int32)), .val (.ref ab1)] [(.int (((48 : Int32) + (nu / (10 : Int32))).toInt8.toInt32))])) _
            refine XS.bipush X312.here hx rfl (hb hby at_302) ?_
            show Steps p.tables e below (T312.setTop (mkF m 304 #[.val (.int p1), .val (.int p2), .val (.int p3), .val (.int l1), .val (.int l2), .val (.int ch), .val (.int nu), .val (.ref n1), .val (.ref n2), .val (.int (ch.toInt8.toInt32)), .val (.ref b19), .val (.ref ab1), .val (.ref ab1), .val (.int ((l2 + (1 : Int32)) + (2 : Int32))), .val (.int (2 : Int32)), .val (.ref ab1)] [(.int (48 : Int32)), (.int (((48 : Int32) + (nu / (10 : Int32))).toInt8.toInt32))])) _
            refine XS.iload X312.here hx rfl (hb hby at_304) rfl ?_
            show Steps p.tables e below (T312.setTop (mkF m 306 #[.val (.int p1), .val (.int p2), .val (.int p3), .val (.int l1), .val (.int l2), .val (.int ch), .val (.int nu), .val (.ref n1), .val (.ref n2), .val (.int (ch.toInt8.toInt32)), .val (.ref b19), .val (.ref ab1), .val (.ref ab1), .val (.int ((l2 + (1 : Int32)) + (2 : Int32))), .val (.int (2 : Int32)), .val (.ref ab1)] [(.int nu), (.int (48 : Int32)), (.int (((48 : Int32) + (nu / (10 : Int32))).toInt8.toInt32))])) _
            refine XS.bipush X312.here hx rfl (hb hby at_306) ?_
            show Steps p.tables e below (T312.setTop (mkF m 308 #[.val (.int p1), .val (.int p2), .val (.int p3), .val (.int l1), .val (.int l2), .val (.int ch), .val (.int nu), .val (.ref n1), .val (.ref n2), .val (.int (ch.toInt8.toInt32)), .val (.ref b19), .val (.ref ab1), .val (.ref ab1), .val (.int ((l2 + (1 : Int32)) + (2 : Int32))), .val (.int (2 : Int32)), .val (.ref ab1)] [(.int (10 : Int32)), (.int nu), (.int (48 : Int32)), (.int (((48 : Int32) + (nu / (10 : Int32))).toInt8.toInt32))])) _
            refine XS.idiv X312.here hx rfl (hb hby at_308) rfl (by decide) ?_
            show Steps p.tables e below (T312.setTop (mkF m 309 #[.val (.int p1), .val (.int p2), .val (.int p3), .val (.int l1), .val (.int l2), .val (.int ch), .val (.int nu), .val (.ref n1), .val (.ref n2), .val (.int (ch.toInt8.toInt32)), .val (.ref b19), .val (.ref ab1), .val (.ref ab1), .val (.int ((l2 + (1 : Int32)) + (2 : Int32))), .val (.int (2 : Int32)), .val (.ref ab1)] [(.int (nu / (10 : Int32))), (.int (48 : Int32)), (.int (((48 : Int32) + (nu / (10 : Int32))).toInt8.toInt32))])) _
            refine XS.iadd X312.here hx rfl (hb hby at_309) rfl ?_
            show Steps p.tables e below (T312.setTop (mkF m 310 #[.val (.int p1), .val (.int p2), .val (.int p3), .val (.int l1), .val (.int l2), .val (.int ch), .val (.int nu), .val (.ref n1), .val (.ref n2), .val (.int (ch.toInt8.toInt32)), .val (.ref b19), .val (.ref ab1), .val (.ref ab1), .val (.int ((l2 + (1 : Int32)) + (2 : Int32))), .val (.int (2 : Int32)), .val (.ref ab1)] [(.int ((48 : Int32) + (nu / (10 : Int32)))), (.int (((48 : Int32) + (nu / (10 : Int32))).toInt8.toInt32))])) _
            refine XT.i2b X312.here hx rfl (hb hby at_310) rfl ?_
            show Steps p.tables e below (T312.setTop (mkF m 311 #[.val (.int p1), .val (.int p2), .val (.int p3), .val (.int l1), .val (.int l2), .val (.int ch), .val (.int nu), .val (.ref n1), .val (.ref n2), .val (.int (ch.toInt8.toInt32)), .val (.ref b19), .val (.ref ab1), .val (.ref ab1), .val (.int ((l2 + (1 : Int32)) + (2 : Int32))), .val (.int (2 : Int32)), .val (.ref ab1)] [(.int (((48 : Int32) + (nu / (10 : Int32))).toInt8.toInt32)), (.int (((48 : Int32) + (nu / (10 : Int32))).toInt8.toInt32))])) _
            refine XS.icmpNo X312.here hx rfl (hb hby at_311) rfl (XT.ii_ne_f rfl) ?_
            show Steps p.tables e below (T312.setTop (mkF m 314 #[.val (.int p1), .val (.int p2), .val (.int p3), .val (.int l1), .val (.int l2), .val (.int ch), .val (.int nu), .val (.ref n1), .val (.ref n2), .val (.int (ch.toInt8.toInt32)), .val (.ref b19), .val (.ref ab1), .val (.ref ab1), .val (.int ((l2 + (1 : Int32)) + (2 : Int32))), .val (.int (2 : Int32)), .val (.ref ab1)] [])) _
            refine XS.aload X312.here hx rfl (hb hby at_314) rfl rfl ?_
            show Steps p.tables e below (T312.setTop (mkF m 316 #[.val (.int p1), .val (.int p2), .val (.int p3), .val (.int l1), .val (.int l2), .val (.int ch), .val (.int nu), .val (.ref n1), .val (.ref n2), .val (.int (ch.toInt8.toInt32)), .val (.ref b19), .val (.ref ab1), .val (.ref ab1), .val (.int ((l2 + (1 : Int32)) + (2 : Int32))), .val (.int (2 : Int32)), .val (.ref ab1)] [(.ref ab1)])) _
            refine XS.iload X312.here hx rfl (hb hby at_316) rfl ?_
            show Steps p.tables e below (T312.setTop (mkF m 318 #[.val (.int p1), .val (.int p2), .val (.int p3), .val (.int l1), .val (.int l2), .val (.int ch), .val (.int nu), .val (.ref n1), .val (.ref n2), .val (.int (ch.toInt8.toInt32)), .val (.ref b19), .val (.ref ab1), .val (.ref ab1), .val (.int ((l2 + (1 : Int32)) + (2 : Int32))), .val (.int (2 : Int32)), .val (.ref ab1)] [(.int l2), (.ref ab1)])) _
            refine XS.iconst X312.here hx rfl (hb hby at_318) ?_
            show Steps p.tables e below (T312.setTop (mkF m 319 #[.val (.int p1), .val (.int p2), .val (.int p3), .val (.int l1), .val (.int l2), .val (.int ch), .val (.int nu), .val (.ref n1), .val (.ref n2), .val (.int (ch.toInt8.toInt32)), .val (.ref b19), .val (.ref ab1), .val (.ref ab1), .val (.int ((l2 + (1 : Int32)) + (2 : Int32))), .val (.int (2 : Int32)), .val (.ref ab1)] [(.int (2 : Int32)), (.int l2), (.ref ab1)])) _
            refine XS.iadd X312.here hx rfl (hb hby at_319) rfl ?_
            exact k)
        obtain ⟨cl327, Ar327, hin327, hv327⟩ := own_A.at V_321 (j := (l2 + (2 : Int32))) (own_n0 (by omega)) (own_lt (by omega))
        have pre328 : own_Go p e below (s₁.setTop (entryFrame m #[(.int p1), (.int p2), (.int p3)] maxLocals)) (T312.setTop (mkF m 321 #[.val (.int p1), .val (.int p2), .val (.int p3), .val (.int l1), .val (.int l2), .val (.int ch), .val (.int nu), .val (.ref n1), .val (.ref n2), .val (.int (ch.toInt8.toInt32)), .val (.ref b19), .val (.ref ab1), .val (.ref ab1), .val (.int ((l2 + (1 : Int32)) + (2 : Int32))), .val (.int (2 : Int32)), .val (.ref ab1)] [(.int (((48 : Int32) + (nu % (10 : Int32))).toInt8.toInt32))])) := fun t k => pre326 t (X312.baloadBytes hx (j := (l2 + (2 : Int32))) (v := .int (((48 : Int32) + (nu % (10 : Int32))).toInt8.toInt32)) (by rw [show T312.heap = T312.heap from rfl]; exact Ar327.1) (State.isArrayOf_alike hZ.alike Ar327.2.1) Ar327.2.2 hin327 (hv327.trans (congrArg (fun z => some (Value.int z)) ((own_upd_miss _ _ (own_nn (own_n0 (by omega)) (own_n0 (by omega)) (own_ne (by omega)))).trans ((own_upd_hit _ _ (by rw [own_s4])).trans (own_narb _))))) (g := (mkF m 320 #[.val (.int p1), .val (.int p2), .val (.int p3), .val (.int l1), .val (.int l2), .val (.int ch), .val (.int nu), .val (.ref n1), .val (.ref n2), .val (.int (ch.toInt8.toInt32)), .val (.ref b19), .val (.ref ab1), .val (.ref ab1), .val (.int ((l2 + (1 : Int32)) + (2 : Int32))), .val (.int (2 : Int32)), .val (.ref ab1)] [(.int (l2 + (2 : Int32))), (.ref ab1)])) rfl rfl (hb hby at_320) t k)
        have pre329 : own_Go p e below (s₁.setTop (entryFrame m #[(.int p1), (.int p2), (.int p3)] maxLocals)) (T312.setTop (mkF m 338 #[.val (.int p1), .val (.int p2), .val (.int p3), .val (.int l1), .val (.int l2), .val (.int ch), .val (.int nu), .val (.ref n1), .val (.ref n2), .val (.int (ch.toInt8.toInt32)), .val (.ref b19), .val (.ref ab1), .val (.ref ab1), .val (.int ((l2 + (1 : Int32)) + (2 : Int32))), .val (.int (2 : Int32)), .val (.ref ab1)] [(.int (1 : Int32))])) := fun t k => pre328 t (by
            show Steps p.tables e below (T312.setTop (mkF m 321 #[.val (.int p1), .val (.int p2), .val (.int p3), .val (.int l1), .val (.int l2), .val (.int ch), .val (.int nu), .val (.ref n1), .val (.ref n2), .val (.int (ch.toInt8.toInt32)), .val (.ref b19), .val (.ref ab1), .val (.ref ab1), .val (.int ((l2 + (1 : Int32)) + (2 : Int32))), .val (.int (2 : Int32)), .val (.ref ab1)] [(.int (((48 : Int32) + (nu % (10 : Int32))).toInt8.toInt32))])) _
            refine XS.bipush X312.here hx rfl (hb hby at_321) ?_
            show Steps p.tables e below (T312.setTop (mkF m 323 #[.val (.int p1), .val (.int p2), .val (.int p3), .val (.int l1), .val (.int l2), .val (.int ch), .val (.int nu), .val (.ref n1), .val (.ref n2), .val (.int (ch.toInt8.toInt32)), .val (.ref b19), .val (.ref ab1), .val (.ref ab1), .val (.int ((l2 + (1 : Int32)) + (2 : Int32))), .val (.int (2 : Int32)), .val (.ref ab1)] [(.int (48 : Int32)), (.int (((48 : Int32) + (nu % (10 : Int32))).toInt8.toInt32))])) _
            refine XS.iload X312.here hx rfl (hb hby at_323) rfl ?_
            show Steps p.tables e below (T312.setTop (mkF m 325 #[.val (.int p1), .val (.int p2), .val (.int p3), .val (.int l1), .val (.int l2), .val (.int ch), .val (.int nu), .val (.ref n1), .val (.ref n2), .val (.int (ch.toInt8.toInt32)), .val (.ref b19), .val (.ref ab1), .val (.ref ab1), .val (.int ((l2 + (1 : Int32)) + (2 : Int32))), .val (.int (2 : Int32)), .val (.ref ab1)] [(.int nu), (.int (48 : Int32)), (.int (((48 : Int32) + (nu % (10 : Int32))).toInt8.toInt32))])) _
            refine XS.bipush X312.here hx rfl (hb hby at_325) ?_
            show Steps p.tables e below (T312.setTop (mkF m 327 #[.val (.int p1), .val (.int p2), .val (.int p3), .val (.int l1), .val (.int l2), .val (.int ch), .val (.int nu), .val (.ref n1), .val (.ref n2), .val (.int (ch.toInt8.toInt32)), .val (.ref b19), .val (.ref ab1), .val (.ref ab1), .val (.int ((l2 + (1 : Int32)) + (2 : Int32))), .val (.int (2 : Int32)), .val (.ref ab1)] [(.int (10 : Int32)), (.int nu), (.int (48 : Int32)), (.int (((48 : Int32) + (nu % (10 : Int32))).toInt8.toInt32))])) _
            refine iremM X312 hx rfl (hb hby at_327) rfl (by decide) ?_
            show Steps p.tables e below (T312.setTop (mkF m 328 #[.val (.int p1), .val (.int p2), .val (.int p3), .val (.int l1), .val (.int l2), .val (.int ch), .val (.int nu), .val (.ref n1), .val (.ref n2), .val (.int (ch.toInt8.toInt32)), .val (.ref b19), .val (.ref ab1), .val (.ref ab1), .val (.int ((l2 + (1 : Int32)) + (2 : Int32))), .val (.int (2 : Int32)), .val (.ref ab1)] [(.int (nu % (10 : Int32))), (.int (48 : Int32)), (.int (((48 : Int32) + (nu % (10 : Int32))).toInt8.toInt32))])) _
            refine XS.iadd X312.here hx rfl (hb hby at_328) rfl ?_
            show Steps p.tables e below (T312.setTop (mkF m 329 #[.val (.int p1), .val (.int p2), .val (.int p3), .val (.int l1), .val (.int l2), .val (.int ch), .val (.int nu), .val (.ref n1), .val (.ref n2), .val (.int (ch.toInt8.toInt32)), .val (.ref b19), .val (.ref ab1), .val (.ref ab1), .val (.int ((l2 + (1 : Int32)) + (2 : Int32))), .val (.int (2 : Int32)), .val (.ref ab1)] [(.int ((48 : Int32) + (nu % (10 : Int32)))), (.int (((48 : Int32) + (nu % (10 : Int32))).toInt8.toInt32))])) _
            refine XT.i2b X312.here hx rfl (hb hby at_329) rfl ?_
            show Steps p.tables e below (T312.setTop (mkF m 330 #[.val (.int p1), .val (.int p2), .val (.int p3), .val (.int l1), .val (.int l2), .val (.int ch), .val (.int nu), .val (.ref n1), .val (.ref n2), .val (.int (ch.toInt8.toInt32)), .val (.ref b19), .val (.ref ab1), .val (.ref ab1), .val (.int ((l2 + (1 : Int32)) + (2 : Int32))), .val (.int (2 : Int32)), .val (.ref ab1)] [(.int (((48 : Int32) + (nu % (10 : Int32))).toInt8.toInt32)), (.int (((48 : Int32) + (nu % (10 : Int32))).toInt8.toInt32))])) _
            refine XS.icmpNo X312.here hx rfl (hb hby at_330) rfl (XT.ii_ne_f rfl) ?_
            show Steps p.tables e below (T312.setTop (mkF m 333 #[.val (.int p1), .val (.int p2), .val (.int p3), .val (.int l1), .val (.int l2), .val (.int ch), .val (.int nu), .val (.ref n1), .val (.ref n2), .val (.int (ch.toInt8.toInt32)), .val (.ref b19), .val (.ref ab1), .val (.ref ab1), .val (.int ((l2 + (1 : Int32)) + (2 : Int32))), .val (.int (2 : Int32)), .val (.ref ab1)] [])) _
            refine XS.iconst X312.here hx rfl (hb hby at_333) ?_
            show Steps p.tables e below (T312.setTop (mkF m 334 #[.val (.int p1), .val (.int p2), .val (.int p3), .val (.int l1), .val (.int l2), .val (.int ch), .val (.int nu), .val (.ref n1), .val (.ref n2), .val (.int (ch.toInt8.toInt32)), .val (.ref b19), .val (.ref ab1), .val (.ref ab1), .val (.int ((l2 + (1 : Int32)) + (2 : Int32))), .val (.int (2 : Int32)), .val (.ref ab1)] [(.int (1 : Int32))])) _
            refine XS.goto X312.here hx rfl (pc0 := 334) (pc' := 338) rfl (hb hby at_334) (by decide) (by decide) ?_
            exact k)
        obtain ⟨fs, hr, hrun, hended, hW, hsame⟩ := X312.leave (v := some (.int (1 : Int32))) (fun h => by rw [Bd.returns] at h; cases h)
        refine ⟨_, _, pre329 _ ?_, hrun, hended, _, _, rfl, ?_, ⟨_, rfl⟩, hW, hsame.mono (by decide) (by decide)⟩
        · show Steps p.tables e below (T312.setTop (mkF m 338 #[.val (.int p1), .val (.int p2), .val (.int p3), .val (.int l1), .val (.int l2), .val (.int ch), .val (.int nu), .val (.ref n1), .val (.ref n2), .val (.int (ch.toInt8.toInt32)), .val (.ref b19), .val (.ref ab1), .val (.ref ab1), .val (.int ((l2 + (1 : Int32)) + (2 : Int32))), .val (.int (2 : Int32)), .val (.ref ab1)] [(.int (1 : Int32))])) _
          exact retN X312 hx (t := .boolean) Bd.returns (by simp) (hb hby at_338) hr
        · show Q0 Z p1 p2 p3 h0 n0 _ T312.heap _
          exact ⟨rfl, N312⟩
set_option maxRecDepth 65536 in
set_option maxHeartbeats 40000000 in
theorem comes_1 {Post : Tables → Env → Array Value → State → Outcome → State → Prop} (hpost : ∀ tb e args s v u, (limb_1_1.after args s (.returned v) u = true ∧ limb_1_2.after args s (.returned v) u = true ∧ True) → FrameEnd s (.returned v) u (Jvm.fieldLocs frame_1_writes args s ++ Jvm.arrayLocs frame_1_arrays args s ++ Jvm.staticLocs frame_1_statics s) 24 192 → Post tb e args s (.returned v) u) :
    ArmFor flags0 classFile x code maxLocals ret World_1 tables_1 room_1 Calls_1 rest_1 Pre_1 Post := by
  intro l hfl _ _ p e ha hc hk s m args below hf hA hF happ hP
  obtain ⟨hcalls, hrest, hpre⟩ := hP
  obtain ⟨-, -, -, hnamed, -, -, -, hat⟩ := (Spec.applies_iff hf).mp happ
  obtain ⟨hg, hn⟩ := and_e (Cond.before_iff.mp (show (Jvm.Cond.and given_1 narrow_1).before args s = true from hpre))
  obtain ⟨gc, q0⟩ := and_e hg
  obtain ⟨ga0, q1⟩ := and_e q0
  obtain ⟨ga1, q2⟩ := and_e q1
  have ga2 := q2
  obtain ⟨w0, w1, w2, rfl⟩ : ∃ w0 w1 w2 : Value, args = #[w0, w1, w2] := by
    have hs : args.size = 3 := by simpa [Cond.value, given_1] using gc
    obtain ⟨L⟩ := args
    match L, hs with
    | [w0, w1, w2], _ => exact ⟨w0, w1, w2, rfl⟩
  have hw := fun d (hd : d ∈ tables_1) => atoms_spec (ws := Jvm.Cond.code x code maxLocals ret :: tables_1) hat d (List.mem_cons_of_mem _ hd)
  obtain ⟨i0, ei0⟩ := is_v ga0
  obtain rfl : w0 = (.int i0) := Option.some.inj ei0
  obtain ⟨i1, ei1⟩ := is_v ga1
  obtain rfl : w1 = (.int i1) := Option.some.inj ei1
  obtain ⟨i2, ei2⟩ := is_v ga2
  obtain rfl : w2 = (.int i2) := Option.some.inj ei2
  obtain ⟨n, o, h1, h2, h3, _, L, rfl, ⟨rfl, N⟩, hq⟩ := rm0 l s _ hw tables_1 i0 i1 i2 s.heap s.heap.size (Nat.le_refl _)  p e ha hc hk s m _ below hf ((Spec.applies_iff_loose hf).mp happ).1 ⟨rfl, State.Warmed39.refl s, rfl⟩ trivial
  refine ⟨n, _, h1, h2, h3, hpost _ _ _ _ _ _ ⟨Cond.after_iff.mpr rfl, Cond.after_iff.mpr (eq_i res_at (Term.int_eval (1)) rfl), trivial⟩ ⟨hq.1, hq.2.1, (hq.2.2.sift fun y hy => Or.inr (N y hy)).mono (by decide) (by decide)⟩⟩
theorem main_1_1 : Claimed_1_1 := comes_1 fun _ _ _ _ _ _ h hF => ⟨h.1, hF⟩
theorem main_1_2 : Claimed_1_2 := comes_1 fun _ _ _ _ _ _ h hF => ⟨h.2.1, hF⟩
end Jvm.Pilot.@@N@@
namespace Jvm.Pilot.@@N@@
open Jvm Jvm.ClassFile Sem Op Lib Jvm.Free Jvm.Stand Jvm.Pilot.@@N@@.Jvm.D
/-! MADE BY PROGRAM (witnessworld.py) out of the Statement's table words and the real class files: 10 classes; the members and pool entries that the words name. The judged class is class 1, her method 3. -/
namespace start1
open Jvm.ClassFile
def u (s : String) : CpInfo := .utf8 (stringToUtf16 s)
/-- a pool by its gaps: so many unusable entries, then the entry; so many at the end -/
def gap : Nat → List CpInfo → List CpInfo
  | 0, r => r
  | n + 1, r => .unusable :: gap n r
def poolList (es : List (Nat × CpInfo)) (last : Nat) : List CpInfo := es.foldr (fun e r => gap e.1 (e.2 :: r)) (gap last [])
def pool (es : List (Nat × CpInfo)) (last : Nat) : Array CpInfo := ⟨poolList es last⟩
def fileOf (pool : Array CpInfo) (this : Nat) (attrs : Array Attribute := #[]) (ms : Array MethodInfo := #[]) (fl : Nat := 33) (sup : Nat := 0) (ifs : Array Nat := #[]) (fds : Array FieldInfo := #[]) : ClassFile where
  minorVersion := 0
  majorVersion := 65
  constantPool := pool
  accessFlags := fl
  thisClass := this
  superClass := sup
  interfaces := ifs
  fields := fds
  methods := ms
  attributes := attrs
def plain (name : String) (sup : Option ClassId) : Class where
  name := name
  kind := .ordinary
  loader := none
  accessFlags := 33
  super := sup
  interfaces := #[]
  cf := none
  fields := #[]
  methods := #[]
  instanceTypes := #[]
  staticTypes := #[]
  resolved := #[]
  callSites := []
  init := .initialized
  statics := none
  mirror := none

def pool0 : Array CpInfo := pool [(5, u "<init>"), (0, u "()V"), (1, .class_ 10), (1, u "java/lang/Object")] 113

def k0c0 : Code := { maxStack := 0, maxLocals := 1, code := object_method_1_code, exceptionTable := #[], attributes := #[] }
def k0m0 : Method := { name := "<init>", desc := "()V", sig := { parameters := [], returnType := none }, accessFlags := 1, code := some k0c0 }
/-- java/lang/Object -/
def k0 : Class := { plain "java/lang/Object" none with
  accessFlags := 33
  interfaces := #[]
  cf := some (fileOf pool0 8 #[] #[{ accessFlags := 1, nameIndex := 5, descriptorIndex := 6, attributes := #[] }] 33 0 #[] #[])
  fields := #[]
  methods := #[k0m0]
  instanceTypes := #[]
  staticTypes := #[]
  resolved := Array.replicate 124 none
  statics := none }

def pool1 : Array CpInfo := pool [(2, .class_ 4), (1, u "java/lang/Object"), (0, u "<init>"), (0, u "()V"), (0, .methodref 8 9), (0, .class_ 10), (0, .nameAndType 11 12), (0, u "com/example/gyre/gyre/NodeLabelStartNodePinLaw"), (0, u "mk"), (0, u "(II)[B"), (0, .class_ 14), (0, u "com/example/gyre/gyre/NodeLabel"), (0, .methodref 13 16), (0, .nameAndType 5 17), (0, u "(C)V"), (0, .methodref 13 19), (0, .nameAndType 20 21), (0, u "startNode"), (0, u "([B)V"), (0, .methodref 13 23), (0, .nameAndType 24 25), (0, u "bytes"), (0, u "()[B"), (0, .methodref 8 27), (0, .nameAndType 28 29), (0, u "prefix"), (0, u "([B[BI)Z"), (0, .methodref 13 31), (0, .nameAndType 32 33), (0, u "withNumber"), (0, u "(I)I"), (5, u "law"), (0, u "(III)Z")] 2

def k1m0 : Method := { name := "<init>", desc := "()V", sig := { parameters := [], returnType := none }, accessFlags := 1, code := none }
def k1c1 : Code := { maxStack := 4, maxLocals := 3, code := method_2_code, exceptionTable := #[], attributes := #[] }
def k1m1 : Method := { name := "mk", desc := "(II)[B", sig := { parameters := [.int, .int], returnType := some (.array .byte) }, accessFlags := 10, code := some k1c1 }
def k1c2 : Code := { maxStack := 3, maxLocals := 3, code := method_3_code, exceptionTable := #[], attributes := #[] }
def k1m2 : Method := { name := "prefix", desc := "([B[BI)Z", sig := { parameters := [(.array .byte), (.array .byte), .int], returnType := some .boolean }, accessFlags := 10, code := some k1c2 }
def k1c3 : Code := { maxStack := 4, maxLocals := 16, code := code, exceptionTable := #[], attributes := #[] }
def k1m3 : Method := { name := "law", desc := "(III)Z", sig := { parameters := [.int, .int, .int], returnType := some .boolean }, accessFlags := 9, code := some k1c3 }
/-- com/example/gyre/gyre/NodeLabelStartNodePinLaw -/
def k1 : Class := { plain "com/example/gyre/gyre/NodeLabelStartNodePinLaw" (some 0) with
  accessFlags := 49
  interfaces := #[]
  cf := some (fileOf pool1 8 #[] #[{ accessFlags := 1, nameIndex := 5, descriptorIndex := 6, attributes := #[] }, { accessFlags := 10, nameIndex := 11, descriptorIndex := 12, attributes := #[] }, { accessFlags := 10, nameIndex := 28, descriptorIndex := 29, attributes := #[] }, { accessFlags := 9, nameIndex := 39, descriptorIndex := 40, attributes := #[] }] 49 2 #[] #[])
  fields := #[]
  methods := #[k1m0, k1m1, k1m2, k1m3]
  instanceTypes := #[]
  staticTypes := #[]
  resolved := Array.replicate 43 none
  statics := none }

def pool2 : Array CpInfo := pool [(1, .methodref 2 3), (0, .class_ 4), (0, .nameAndType 5 6), (0, u "java/lang/Object"), (0, u "<init>"), (0, u "()V"), (0, .fieldref 8 9), (0, .class_ 10), (0, .nameAndType 11 12), (0, u "com/example/gyre/gyre/NodeLabel"), (0, u "bytes"), (0, u "[B"), (0, .fieldref 8 14), (0, .nameAndType 15 16), (0, u "separator"), (0, u "B"), (0, .methodref 18 19), (0, .class_ 20), (0, .nameAndType 21 22), (0, u "java/lang/System"), (0, u "arraycopy"), (0, u "(Ljava/lang/Object;ILjava/lang/Object;II)V"), (0, .fieldref 8 24), (0, .nameAndType 25 26), (0, u "numberFrom"), (0, u "I"), (0, u "MAX_DIGITS"), (2, u "(C)V"), (2, u "startNode"), (0, u "([B)V"), (1, u "withNumber"), (0, u "(I)I"), (0, u "()[B")] 2

def k2c0 : Code := { maxStack := 2, maxLocals := 2, code := prog_17_method_1_code, exceptionTable := #[], attributes := #[] }
def k2m0 : Method := { name := "<init>", desc := "(C)V", sig := { parameters := [.char], returnType := none }, accessFlags := 0, code := some k2c0 }
def k2c1 : Code := { maxStack := 5, maxLocals := 3, code := prog_17_method_2_code, exceptionTable := #[], attributes := #[] }
def k2m1 : Method := { name := "startNode", desc := "([B)V", sig := { parameters := [(.array .byte)], returnType := none }, accessFlags := 0, code := some k2c1 }
def k2c2 : Code := { maxStack := 5, maxLocals := 6, code := prog_17_method_3_code, exceptionTable := #[], attributes := #[] }
def k2m2 : Method := { name := "withNumber", desc := "(I)I", sig := { parameters := [.int], returnType := some .int }, accessFlags := 0, code := some k2c2 }
def k2c3 : Code := { maxStack := 1, maxLocals := 1, code := prog_17_method_4_code, exceptionTable := #[], attributes := #[] }
def k2m3 : Method := { name := "bytes", desc := "()[B", sig := { parameters := [], returnType := some (.array .byte) }, accessFlags := 0, code := some k2c3 }
/-- com/example/gyre/gyre/NodeLabel -/
def k2 : Class := { plain "com/example/gyre/gyre/NodeLabel" (some 0) with
  accessFlags := 48
  interfaces := #[]
  cf := some (fileOf pool2 8 #[] #[{ accessFlags := 0, nameIndex := 5, descriptorIndex := 30, attributes := #[] }, { accessFlags := 0, nameIndex := 33, descriptorIndex := 34, attributes := #[] }, { accessFlags := 0, nameIndex := 36, descriptorIndex := 37, attributes := #[] }, { accessFlags := 0, nameIndex := 11, descriptorIndex := 38, attributes := #[] }] 48 2 #[] #[{ accessFlags := 26, nameIndex := 27, descriptorIndex := 26, attributes := #[] }, { accessFlags := 18, nameIndex := 15, descriptorIndex := 16, attributes := #[] }, { accessFlags := 2, nameIndex := 11, descriptorIndex := 12, attributes := #[] }, { accessFlags := 2, nameIndex := 25, descriptorIndex := 26, attributes := #[] }])
  fields := #[{ name := "MAX_DIGITS", type := .int, accessFlags := 26, slot := 0, constantValue := 0 }, { name := "separator", type := .byte, accessFlags := 18, slot := 0, constantValue := 0 }, { name := "bytes", type := (.array .byte), accessFlags := 2, slot := 1, constantValue := 0 }, { name := "numberFrom", type := .int, accessFlags := 2, slot := 2, constantValue := 0 }]
  methods := #[k2m0, k2m1, k2m2, k2m3]
  instanceTypes := #[.byte, (.array .byte), .int]
  staticTypes := #[.int]
  resolved := Array.replicate 41 none
  statics := none }

def pool3 : Array CpInfo := pool [(2, .class_ 4), (1, u "java/lang/Object"), (0, u "<init>"), (0, u "()V"), (1, .class_ 10), (1, u "java/lang/System"), (0, u "allowSecurityManager"), (0, u "I"), (16, u "cons"), (0, u "Ljava/io/Console;"), (77, .class_ 110), (1, u "java/lang/System$CallersHolder"), (43, u "initialErrStream"), (0, u "Ljava/io/PrintStream;"), (19, u "security"), (0, u "Ljava/lang/SecurityManager;"), (31, .class_ 209), (0, u "java/lang/System$1"), (7, u "props"), (0, u "Ljava/util/Properties;"), (2, u "lineSeparator"), (0, u "Ljava/lang/String;"), (96, .class_ 321), (1, u "java/lang/System$LoggerFinder"), (5, .class_ 328), (0, u "java/lang/System$Logger"), (67, u "err"), (2, u "out"), (91, u "notSupportedJnuEncoding"), (15, u "in"), (17, u "initialIn"), (0, u "Ljava/io/InputStream;"), (35, u "bootLayer"), (0, u "Ljava/lang/ModuleLayer;"), (99, .class_ 664), (0, u "java/lang/System$2"), (9, u "NEVER"), (2, u "MAYBE"), (49, u "arraycopy"), (0, u "(Ljava/lang/Object;ILjava/lang/Object;II)V"), (72, .class_ 802), (0, u "java/lang/System$Logger$Level")] 31

def k3m0 : Method := { name := "<init>", desc := "()V", sig := { parameters := [], returnType := none }, accessFlags := 2, code := none }
def k3m1 : Method := { name := "arraycopy", desc := "(Ljava/lang/Object;ILjava/lang/Object;II)V", sig := { parameters := [(.object "java/lang/Object"), .int, (.object "java/lang/Object"), .int, .int], returnType := none }, accessFlags := 265, code := none }
/-- java/lang/System -/
def k3 : Class := { plain "java/lang/System" (some 0) with
  accessFlags := 49
  interfaces := #[]
  cf := some (fileOf pool3 8 #[.nestMembers #[319, 327, 801, 108, 663, 208]] #[{ accessFlags := 2, nameIndex := 5, descriptorIndex := 6, attributes := #[] }, { accessFlags := 265, nameIndex := 727, descriptorIndex := 728, attributes := #[] }] 49 2 #[] #[{ accessFlags := 25, nameIndex := 507, descriptorIndex := 526, attributes := #[] }, { accessFlags := 25, nameIndex := 399, descriptorIndex := 155, attributes := #[] }, { accessFlags := 25, nameIndex := 396, descriptorIndex := 155, attributes := #[] }, { accessFlags := 10, nameIndex := 525, descriptorIndex := 526, attributes := #[] }, { accessFlags := 26, nameIndex := 674, descriptorIndex := 12, attributes := #[] }, { accessFlags := 26, nameIndex := 677, descriptorIndex := 12, attributes := #[] }, { accessFlags := 10, nameIndex := 11, descriptorIndex := 12, attributes := #[] }, { accessFlags := 74, nameIndex := 175, descriptorIndex := 176, attributes := #[] }, { accessFlags := 10, nameIndex := 491, descriptorIndex := 222, attributes := #[] }, { accessFlags := 74, nameIndex := 29, descriptorIndex := 30, attributes := #[] }, { accessFlags := 74, nameIndex := 154, descriptorIndex := 155, attributes := #[] }, { accessFlags := 10, nameIndex := 217, descriptorIndex := 218, attributes := #[] }, { accessFlags := 10, nameIndex := 221, descriptorIndex := 222, attributes := #[] }, { accessFlags := 8, nameIndex := 562, descriptorIndex := 563, attributes := #[] }])
  fields := #[{ name := "in", type := (.object "java/io/InputStream"), accessFlags := 25, slot := 0, constantValue := 0 }, { name := "out", type := (.object "java/io/PrintStream"), accessFlags := 25, slot := 1, constantValue := 0 }, { name := "err", type := (.object "java/io/PrintStream"), accessFlags := 25, slot := 2, constantValue := 0 }, { name := "initialIn", type := (.object "java/io/InputStream"), accessFlags := 10, slot := 3, constantValue := 0 }, { name := "NEVER", type := .int, accessFlags := 26, slot := 4, constantValue := 0 }, { name := "MAYBE", type := .int, accessFlags := 26, slot := 5, constantValue := 0 }, { name := "allowSecurityManager", type := .int, accessFlags := 10, slot := 6, constantValue := 0 }, { name := "security", type := (.object "java/lang/SecurityManager"), accessFlags := 74, slot := 7, constantValue := 0 }, { name := "notSupportedJnuEncoding", type := (.object "java/lang/String"), accessFlags := 10, slot := 8, constantValue := 0 }, { name := "cons", type := (.object "java/io/Console"), accessFlags := 74, slot := 9, constantValue := 0 }, { name := "initialErrStream", type := (.object "java/io/PrintStream"), accessFlags := 74, slot := 10, constantValue := 0 }, { name := "props", type := (.object "java/util/Properties"), accessFlags := 10, slot := 11, constantValue := 0 }, { name := "lineSeparator", type := (.object "java/lang/String"), accessFlags := 10, slot := 12, constantValue := 0 }, { name := "bootLayer", type := (.object "java/lang/ModuleLayer"), accessFlags := 8, slot := 13, constantValue := 0 }]
  methods := #[k3m0, k3m1]
  instanceTypes := #[]
  staticTypes := #[(.object "java/io/InputStream"), (.object "java/io/PrintStream"), (.object "java/io/PrintStream"), (.object "java/io/InputStream"), .int, .int, .int, (.object "java/lang/SecurityManager"), (.object "java/lang/String"), (.object "java/io/Console"), (.object "java/io/PrintStream"), (.object "java/util/Properties"), (.object "java/lang/String"), (.object "java/lang/ModuleLayer")]
  resolved := Array.replicate 834 none
  statics := none }

def pool4 : Array CpInfo := pool [(1, u "java/lang/Cloneable"), (0, .class_ 1), (0, u "java/lang/Object"), (0, .class_ 3)] 3

/-- java/lang/Cloneable -/
def k4 : Class := { plain "java/lang/Cloneable" (some 0) with
  accessFlags := 1537
  interfaces := #[]
  cf := some (fileOf pool4 2 #[] #[] 1537 4 #[] #[])
  fields := #[]
  methods := #[]
  instanceTypes := #[]
  staticTypes := #[]
  resolved := Array.replicate 8 none
  statics := none }

def pool5 : Array CpInfo := pool [(1, u "java/io/Serializable"), (0, .class_ 1), (0, u "java/lang/Object"), (0, .class_ 3)] 3

/-- java/io/Serializable -/
def k5 : Class := { plain "java/io/Serializable" (some 0) with
  accessFlags := 1537
  interfaces := #[]
  cf := some (fileOf pool5 2 #[] #[] 1537 4 #[] #[])
  fields := #[]
  methods := #[]
  instanceTypes := #[]
  staticTypes := #[]
  resolved := Array.replicate 8 none
  statics := none }

/-- the primitive byte -/
def k6 : Class := { plain "byte" none with kind := .primitive 'B', accessFlags := 0x411 }
/-- [B -/
def k7 : Class := { plain "[B" (some 0) with kind := .array 6 .byte, interfaces := #[4, 5], accessFlags := 1041 }

/-- the primitive int -/
def k8 : Class := { plain "int" none with kind := .primitive 'I', accessFlags := 0x411 }
/-- [I -/
def k9 : Class := { plain "[I" (some 0) with kind := .array 8 .int, interfaces := #[4, 5], accessFlags := 1041 }

def heap : Heap := #[]
def classes : Array Class := #[k0, k1, k2, k3, k4, k5, k6, k7, k8, k9]
def interned : List (Array UInt16 × Addr) := []
def slotsUsed : Nat := 0
def theMethod : MethodId := ⟨1, 3⟩
def args0 : Array Value := #[.int 5, .int 6, .int 7]
def aboutOver (below : List Frame) : State where
  vm := { classes := classes, interned := interned.toArray }
  heap := heap
  slotsUsed := slotsUsed
  threads := #[{ frames := .invoking theMethod args0 :: below }]
def below0 : List Frame := [.native { method := ⟨0, 0⟩, args := #[] }]
def about1 : State := aboutOver below0
def p0 : Program := .bare "" "" ""
def e0 : Env := launch0.env 0 0 0
theorem w_frames : about1.frames = Frame.invoking theMethod args0 :: below0 := rfl
set_option maxRecDepth 65536 in
theorem w_args : argsFit about1.vm theMethod args0 = true := by decide +kernel
set_option maxRecDepth 65536 in
theorem w_heap : heapFits about1 = true := by decide +kernel
set_option maxRecDepth 65536 in
theorem w_runnable : about1.curStatus? = some .runnable := by decide +kernel
set_option maxRecDepth 65536 in
theorem w_alone : about1.alone = true := by decide +kernel
set_option maxRecDepth 65536 in
theorem w_named : about1.methodNamed? x = some theMethod := by decide +kernel
set_option maxRecDepth 65536 in
theorem w_hears : about1.hears theMethod below0 = true := by decide +kernel
set_option maxRecDepth 65536 in
theorem w_ripe : about1.ripe theMethod args0 below0 = true := by decide +kernel
theorem w_running : about1.status = .running := rfl
set_option maxRecDepth 65536 in
theorem w_room : about1.hasRoom e0.platform room_1 = true :=
  launch0.hasRoom_least _ room_1 (by decide +kernel) (by decide +kernel) (by decide +kernel) (by decide +kernel) (by decide +kernel) (by decide +kernel)
theorem allAtoms_all (ts : List Jvm.Cond) (a : Array Jvm.Value) (st : Jvm.State) : (allAtoms ts).before a st = ts.all (fun c => c.before a st) := by
  induction ts with
  | nil => rfl
  | cons c t ih =>
    show (Jvm.Cond.and c (allAtoms t)).before a st = _
    rw [Jvm.Cond.before_and, ih, List.all_cons]
def words1 : List Jvm.Cond := Jvm.Cond.code x code maxLocals ret :: tables_1
/-- a 'code' word, met by the world's own term for the bytes: nothing is compared byte by byte -/
theorem code_word {y : MethodName} {bytes : ByteArray} {mx : Nat} {rt : Option FieldType} {a : Array Value} {s : State} {m : MethodId} {meth : Method} {c : Code} (h1 : s.methodNamed? y = some m) (h2 : s.vm.method? m = some meth) (h3 : meth.code = some c) (h4 : c.code = bytes)
    (h5 : (c.maxLocals == mx && c.exceptionTable.isEmpty && decide (c.maxStack ≤ mostOperands) && decide (meth.sig.returnType = rt) && !meth.locks && decide (parseMethodDescriptor y.desc = some meth.sig)) = true) : (Jvm.Cond.code y bytes mx rt).before a s = true := by
  simp only [Bool.and_eq_true, beq_iff_eq, Bool.not_eq_true', decide_eq_true_eq] at h5
  obtain ⟨⟨⟨⟨⟨g1, g2⟩, g3⟩, g4⟩, g5⟩, g6⟩ := h5
  simp [Cond.before, Cond.holds, Cond.value, h1, h2, h3, h4, g1, g2, g3, g4, g5, g6]
def isCode : Jvm.Cond → Bool
  | .code _ _ _ _ => true
  | _ => false
theorem all_split {L : List Jvm.Cond} {P : Jvm.Cond → Bool} (h1 : L.all (fun c => isCode c || P c) = true) (h2 : ∀ c ∈ L.filter isCode, P c = true) : L.all P = true := by
  refine List.all_eq_true.mpr fun c hc => ?_
  have h := List.all_eq_true.mp h1 c hc
  rcases Bool.eq_false_or_eq_true (isCode c) with hi | hi
  · exact h2 c (List.mem_filter.mpr ⟨hc, hi⟩)
  · simpa [hi] using h
set_option maxRecDepth 65536 in
theorem w_c0 : (Jvm.Cond.code x code maxLocals ret).before args0 about1 = true := code_word (m := ⟨1, 3⟩) (meth := k1m3) (c := k1c3) (by decide +kernel) rfl rfl rfl (by decide +kernel)
set_option maxRecDepth 65536 in
theorem w_c1 : (Jvm.Cond.code ({ cls := "com/example/gyre/gyre/NodeLabelStartNodePinLaw", name := "mk", desc := "(II)[B" } : Jvm.MethodName) method_2_code (3 : Nat) (Option.some (Jvm.ClassFile.FieldType.array Jvm.ClassFile.FieldType.byte))).before args0 about1 = true := code_word (m := ⟨1, 1⟩) (meth := k1m1) (c := k1c1) (by decide +kernel) rfl rfl rfl (by decide +kernel)
set_option maxRecDepth 65536 in
theorem w_c2 : (Jvm.Cond.code ({ cls := "com/example/gyre/gyre/NodeLabel", name := "<init>", desc := "(C)V" } : Jvm.MethodName) prog_17_method_1_code (2 : Nat) (Option.none : Option Jvm.ClassFile.FieldType)).before args0 about1 = true := code_word (m := ⟨2, 0⟩) (meth := k2m0) (c := k2c0) (by decide +kernel) rfl rfl rfl (by decide +kernel)
set_option maxRecDepth 65536 in
theorem w_c3 : (Jvm.Cond.code ({ cls := "java/lang/Object", name := "<init>", desc := "()V" } : Jvm.MethodName) object_method_1_code (1 : Nat) (Option.none : Option Jvm.ClassFile.FieldType)).before args0 about1 = true := code_word (m := ⟨0, 0⟩) (meth := k0m0) (c := k0c0) (by decide +kernel) rfl rfl rfl (by decide +kernel)
set_option maxRecDepth 65536 in
theorem w_c4 : (Jvm.Cond.code ({ cls := "com/example/gyre/gyre/NodeLabel", name := "startNode", desc := "([B)V" } : Jvm.MethodName) prog_17_method_2_code (3 : Nat) (Option.none : Option Jvm.ClassFile.FieldType)).before args0 about1 = true := code_word (m := ⟨2, 1⟩) (meth := k2m1) (c := k2c1) (by decide +kernel) rfl rfl rfl (by decide +kernel)
set_option maxRecDepth 65536 in
theorem w_c5 : (Jvm.Cond.code ({ cls := "com/example/gyre/gyre/NodeLabel", name := "bytes", desc := "()[B" } : Jvm.MethodName) prog_17_method_4_code (1 : Nat) (Option.some (Jvm.ClassFile.FieldType.array Jvm.ClassFile.FieldType.byte))).before args0 about1 = true := code_word (m := ⟨2, 3⟩) (meth := k2m3) (c := k2c3) (by decide +kernel) rfl rfl rfl (by decide +kernel)
set_option maxRecDepth 65536 in
theorem w_c6 : (Jvm.Cond.code ({ cls := "com/example/gyre/gyre/NodeLabelStartNodePinLaw", name := "prefix", desc := "([B[BI)Z" } : Jvm.MethodName) method_3_code (3 : Nat) (Option.some Jvm.ClassFile.FieldType.boolean)).before args0 about1 = true := code_word (m := ⟨1, 2⟩) (meth := k1m2) (c := k1c2) (by decide +kernel) rfl rfl rfl (by decide +kernel)
set_option maxRecDepth 65536 in
theorem w_c7 : (Jvm.Cond.code ({ cls := "com/example/gyre/gyre/NodeLabel", name := "withNumber", desc := "(I)I" } : Jvm.MethodName) prog_17_method_3_code (6 : Nat) (Option.some Jvm.ClassFile.FieldType.int)).before args0 about1 = true := code_word (m := ⟨2, 2⟩) (meth := k2m2) (c := k2c2) (by decide +kernel) rfl rfl rfl (by decide +kernel)
def codes1 : List Jvm.Cond := [Jvm.Cond.code x code maxLocals ret, Jvm.Cond.code ({ cls := "com/example/gyre/gyre/NodeLabelStartNodePinLaw", name := "mk", desc := "(II)[B" } : Jvm.MethodName) method_2_code (3 : Nat) (Option.some (Jvm.ClassFile.FieldType.array Jvm.ClassFile.FieldType.byte)), Jvm.Cond.code ({ cls := "com/example/gyre/gyre/NodeLabel", name := "<init>", desc := "(C)V" } : Jvm.MethodName) prog_17_method_1_code (2 : Nat) (Option.none : Option Jvm.ClassFile.FieldType), Jvm.Cond.code ({ cls := "java/lang/Object", name := "<init>", desc := "()V" } : Jvm.MethodName) object_method_1_code (1 : Nat) (Option.none : Option Jvm.ClassFile.FieldType), Jvm.Cond.code ({ cls := "com/example/gyre/gyre/NodeLabel", name := "startNode", desc := "([B)V" } : Jvm.MethodName) prog_17_method_2_code (3 : Nat) (Option.none : Option Jvm.ClassFile.FieldType), Jvm.Cond.code ({ cls := "com/example/gyre/gyre/NodeLabel", name := "bytes", desc := "()[B" } : Jvm.MethodName) prog_17_method_4_code (1 : Nat) (Option.some (Jvm.ClassFile.FieldType.array Jvm.ClassFile.FieldType.byte)), Jvm.Cond.code ({ cls := "com/example/gyre/gyre/NodeLabelStartNodePinLaw", name := "prefix", desc := "([B[BI)Z" } : Jvm.MethodName) method_3_code (3 : Nat) (Option.some Jvm.ClassFile.FieldType.boolean), Jvm.Cond.code ({ cls := "com/example/gyre/gyre/NodeLabel", name := "withNumber", desc := "(I)I" } : Jvm.MethodName) prog_17_method_3_code (6 : Nat) (Option.some Jvm.ClassFile.FieldType.int)]
set_option maxRecDepth 65536 in
theorem codes_eq : words1.filter isCode = codes1 := rfl
theorem w_codes : ∀ c ∈ words1.filter isCode, c.before args0 about1 = true := by
  rw [codes_eq]
  intro c hc
  simp only [codes1, List.mem_cons, List.not_mem_nil, or_false] at hc
  rcases hc with rfl | rfl | rfl | rfl | rfl | rfl | rfl | rfl
  · exact w_c0
  · exact w_c1
  · exact w_c2
  · exact w_c3
  · exact w_c4
  · exact w_c5
  · exact w_c6
  · exact w_c7
set_option maxRecDepth 65536 in
theorem w_t1 : (words1.take 24).all (fun c => isCode c || c.before args0 about1) = true := by decide +kernel
set_option maxRecDepth 65536 in
theorem w_t2 : (words1.drop 24).all (fun c => isCode c || c.before args0 about1) = true := by decide +kernel
theorem w_tables : (allAtoms (Jvm.Cond.code x code maxLocals ret :: tables_1)).before args0 about1 = true := by
  rw [allAtoms_all]
  show words1.all (fun c => c.before args0 about1) = true
  refine all_split ?_ w_codes
  rw [← List.take_append_drop 24 words1, List.all_append, w_t1, w_t2]
  rfl
set_option maxRecDepth 65536 in
theorem w_case : (Jvm.Cond.and given_1 narrow_1).before args0 about1 = true := by decide +kernel
theorem w_applies : (headSpec (Jvm.Cond.code x code maxLocals ret :: tables_1) room_1).applies x e0.platform about1 = true :=
  (Spec.applies_iff w_frames).mpr ⟨w_running, w_runnable, w_alone, w_named, w_hears, w_ripe, w_room, w_tables⟩
theorem atStart : AtStart classFile x code maxLocals ret World_1 tables_1 room_1 Calls_1 rest_1 Pre_1 launch0 p0 e0 about1 theMethod args0 below0 :=
  ⟨lists_1, trivial, launch0.admits_env _ _ _, launch0.least_env, fairChoices_fair.cas, fairChoices_fair.clock, w_frames, w_args, w_heap, w_applies, trivial, trivial, w_case⟩
end start1
theorem witness_1 : WitnessClaimed_1 := ⟨start1.p0, start1.e0, start1.about1, start1.theMethod, start1.args0, start1.below0, start1.atStart⟩
end Jvm.Pilot.@@N@@
