import JvmDerived
import JvmDerived.Pilot.@@N@@Statement
import JvmDerived.Pilot.@@N@@Code
set_option linter.unusedVariables false
set_option linter.unusedSimpArgs false
namespace Jvm.RoadKit
open Sem ClassFile Op Lib Jvm.Stand Jvm.Free Jvm.LawKit
section New
variable {p : Program} {l : Launch} {e : Env} {R : Room} {s : State} {m : MethodId} {args : Array Value} {below : List Frame} {meth : Method} {c : Code} {T : State} {locs : List Loc} {cells slots : Nat}
theorem retI (X : Stand p l e R s m args below meth c T locs cells slots) (hx : p.tables.exec = Jvm.exec) {pc : Nat} {Ls : Array Slot} {z : Int32} {rest : List Value} (hret : meth.sig.returnType = some .int) (hd : decode c.code pc = .ok (.ireturn, 1)) {fs : List Frame}
    (hl : ∀ (f : JFrame) (acts : List Action), f.method = m → f.locked = none → f.entered = [] → (doReturn e (T.setTop f) acts (some (.int z))).1 = T.setFrames fs) : Steps p.tables e below (T.setTop (mkF m pc Ls (.int z :: rest))) (T.setFrames fs) := by
  have hm' : T.vm.method? m = some meth := X.method'
  have hn : narrow .int (.int z) = .int z := rfl
  show Steps p.tables e below (T.setTop { method := m, pc := pc, locals := Ls, stack := _ :: rest, locked := none }) _
  jvm_step X.here [X.here.top, hx, hd, hm', hret, hn]
  first | (intro acts; rw [hl _ acts rfl rfl rfl]) | rw [hl _ _ rfl rfl rfl]
  exact Steps.refl _
end New
end Jvm.RoadKit
namespace Jvm.Pilot.@@N@@
open Jvm Jvm.ClassFile Sem Op Lib Jvm.Free Jvm.Stand Jvm.LawKit Jvm.RoadKit Bundle Jvm.Pilot.@@N@@.Jvm.D
def own_Go (p : Program) (e : Env) (below : List Frame) (A B : State) : Prop := ∀ t, Steps p.tables e below B t → Steps p.tables e below A t
/-- an array of ints, bytes or booleans at a: its kind, its length, its values -/
def own_A (Z : State) (h : Heap) (a : Addr) (ty : FieldType) (n : Int32) (f : Nat → Int32) : Prop := ∃ c : Cell, Arr Z h a c ty ∧ c.slots.size = n.toNatClampNeg ∧ ¬ n < 0 ∧ ∀ i, i < c.slots.size → c.slots[i]? = some (.int (f i)) ∧ fits ty (.int (f i)) = true
def own_upd (f : Nat → Int32) (j : Nat) (x : Int32) : Nat → Int32 := fun i => if i = j then x else f i
theorem own_upd_hit (f : Nat → Int32) {i j : Nat} (x : Int32) (h : i = j) : own_upd f j x i = x := if_pos h
theorem own_upd_miss (f : Nat → Int32) {i j : Nat} (x : Int32) (h : ¬ i = j) : own_upd f j x i = f i := if_neg h
theorem own_A.lt {Z : State} {h : Heap} {a : Addr} {ty : FieldType} {n : Int32} {f : Nat → Int32} (F : own_A Z h a ty n f) : a < h.size := by obtain ⟨c, A, -⟩ := F; exact A.lt
theorem own_A.ext {Z : State} {h h' : Heap} {a : Addr} {ty : FieldType} {n : Int32} {f : Nat → Int32} (F : own_A Z h a ty n f) (E : Ext h h') : own_A Z h' a ty n f := by obtain ⟨c, A, r⟩ := F; exact ⟨c, A.ext E, r⟩
theorem own_A.other {Z : State} {h h' : Heap} {a b : Addr} {sl : Nat} {v : Value} {ty : FieldType} {n : Int32} {f : Nat → Int32} (F : own_A Z h b ty n f) (W : Wr h h' a sl v) (q : b ≠ a) : own_A Z h' b ty n f := by obtain ⟨c, A, r⟩ := F; exact ⟨c, A.other W q, r⟩
theorem own_A.keep {Z : State} {h h' : Heap} {a : Addr} {ws : List Addr} {ty : FieldType} {n : Int32} {f : Nat → Int32} (F : own_A Z h a ty n f) (K : Keep h h' ws) (q : a ∉ ws) : own_A Z h' a ty n f := by obtain ⟨c, A, r⟩ := F; exact ⟨c, ⟨K.2.1 a c A.1 q, A.2⟩, r⟩
theorem own_A.new {Z : State} {h : Heap} {a : Addr} {k : ClassId} {ty : FieldType} {n : Int32} (A : Arr Z h a (newA k ty n) ty) (q : ¬ n < 0) (hd : defaultValue ty = .int 0) (hf : fits ty (.int 0) = true) : own_A Z h a ty n (fun _ => 0) :=
  ⟨_, A, sz_new _ _ _, q, fun i hi => by
    have hi' : i < n.toNatClampNeg := by rw [sz_new] at hi; exact hi
    exact ⟨by simp [newA, hd, hi'], hf⟩⟩
theorem own_A.set {Z : State} {h h' : Heap} {a : Addr} {ty : FieldType} {n j x : Int32} {f : Nat → Int32} (F : own_A Z h a ty n f) (W : Wr h h' a j.toNatClampNeg (.int x)) (hf : fits ty (.int x) = true) : own_A Z h' a ty n (own_upd f j.toNatClampNeg x) := by
  obtain ⟨c, A, S, N, G⟩ := F
  refine ⟨_, A.same W, by rw [sz_set]; exact S, N, fun i hi => ?_⟩
  rw [sz_set] at hi
  have g := G i hi
  by_cases q : i = j.toNatClampNeg
  · rw [own_upd_hit f x q, q]
    rw [q] at hi
    exact ⟨by simp [Cell.setSlot, hi], hf⟩
  · rw [own_upd_miss f x q]
    refine ⟨?_, g.2⟩
    rw [← g.1]
    simp only [Cell.setSlot]
    rw [Array.getElem?_setIfInBounds_ne (Ne.symm q)]
theorem own_A.at {Z : State} {h : Heap} {a : Addr} {ty : FieldType} {n : Int32} {f : Nat → Int32} (F : own_A Z h a ty n f) {j : Int32} (j0 : ¬ j < 0) (jn : j < n) : ∃ c : Cell, Arr Z h a c ty ∧ ¬ (j < 0 ∨ c.slots.size ≤ j.toNatClampNeg) ∧ c.slots[j.toNatClampNeg]? = some (.int (f j.toNatClampNeg)) := by
  obtain ⟨c, A, S, N, G⟩ := F
  have hin := inb_of S ⟨j0, jn⟩
  exact ⟨c, A, hin, (G _ (Nat.lt_of_not_le fun y => hin (Or.inr y))).1⟩
theorem own_A.len {Z : State} {h : Heap} {a : Addr} {ty : FieldType} {n : Int32} {f : Nat → Int32} (F : own_A Z h a ty n f) : ∃ c : Cell, Arr Z h a c ty ∧ c.slots.size.toInt32 = n := by
  obtain ⟨c, A, S, N, G⟩ := F
  exact ⟨c, A, len_of S N⟩
theorem own_A.cast {Z : State} {h : Heap} {a : Addr} {ty : FieldType} {n : Int32} {f g : Nat → Int32} (F : own_A Z h a ty n f) (q : ∀ i, i < n.toNatClampNeg → f i = g i) : own_A Z h a ty n g := by
  obtain ⟨c, A, S, N, G⟩ := F
  exact ⟨c, A, S, N, fun i hi => by rw [← q i (S ▸ hi)]; exact G i hi⟩
theorem own_nn {x y : Int32} (hx : ¬ x < 0) (hy : ¬ y < 0) (h : ¬ x = y) : ¬ x.toNatClampNeg = y.toNatClampNeg := fun q => h (Int32.toInt_inj.mp (by rw [nat_of hx, nat_of hy, q]))
theorem own_n0 {x : Int32} (h : 0 ≤ x.toInt) : ¬ x < 0 := by
  rw [Int32.lt_iff_toInt_lt]
  have e : (0 : Int32).toInt = 0 := by decide
  omega
theorem own_lt {x y : Int32} (h : x.toInt < y.toInt) : x < y := Int32.lt_iff_toInt_lt.mpr h
theorem own_ne {x y : Int32} (h : x.toInt ≠ y.toInt) : ¬ x = y := fun q => h (by rw [q])
theorem own_cap {x : Int32} (h0 : 0 ≤ x.toInt) (h : x.toInt ≤ 10) : x.toNatClampNeg ≤ 10 := by
  have := nat_of (own_n0 h0)
  omega
theorem own_n3 (p : Int32) : 3 ≤ ((3 : Int32) + (p &&& 7)).toInt ∧ ((3 : Int32) + (p &&& 7)).toInt ≤ 10 := by
  have h := c_mask p 7 3 (by decide) (by decide)
  have e : (3 : Int32).toInt = 3 := by decide
  have h1 : 0 ≤ (p &&& 7).toInt ∧ (p &&& 7).toInt ≤ 7 := by omega
  have q := XT.add32 (x := 3) (y := p &&& 7) ⟨by omega, by omega⟩
  omega
theorem own_mask (p : Int32) : 0 ≤ (p &&& (2147483647 : Int32)).toInt := (c_and p 2147483647 (by decide)).1
theorem own_remr {x y : Int32} (hx : 0 ≤ x.toInt) (hy : 0 < y.toInt) : 0 ≤ (x % y).toInt ∧ (x % y).toInt < y.toInt := ⟨((c_iremV x y).1 hx hy).1, ((c_iremV x y).1 hx hy).2.1⟩
theorem own_rems {a b y : Int32} (ha : 0 ≤ a.toInt) (ha' : a.toInt < y.toInt) (hb : 0 ≤ b.toInt) (hb' : b.toInt < y.toInt) (hy : y.toInt ≤ 10) : ((a + b) % y).toInt = a.toInt + b.toInt ∨ ((a + b) % y).toInt = a.toInt + b.toInt - y.toInt := by
  have q := XT.add32 (x := a) (y := b) ⟨by omega, by omega⟩
  have r := (c_iremV (a + b) y).1 (by omega) (by omega)
  by_cases c : (a + b).toInt < y.toInt
  · left; rw [r.2.2.2.1 c, q]
  · right; rw [r.2.2.2.2 (by omega) (by omega), q]
theorem own_sub {x k : Int32} (h : 3 ≤ x.toInt) (h' : x.toInt ≤ 10) (hk : 0 ≤ k.toInt) (hk' : k.toInt ≤ 2) : (x - k).toInt = x.toInt - k.toInt := XT.sub32 ⟨by omega, by omega⟩
theorem own_1add {x : Int32} (h : 0 ≤ x.toInt) (h' : x.toInt ≤ 10) : ((1 : Int32) + x).toInt = 1 + x.toInt := by
  have e : (1 : Int32).toInt = 1 := by decide
  have q := XT.add32 (x := 1) (y := x) ⟨by omega, by omega⟩
  omega
theorem own_add1 {x : Int32} (h : 0 ≤ x.toInt) (h' : x.toInt ≤ 10) : (x + (1 : Int32)).toInt = x.toInt + 1 := by
  have e : (1 : Int32).toInt = 1 := by decide
  have q := XT.add32 (x := x) (y := 1) ⟨by omega, by omega⟩
  omega
theorem own_j3 {x : Int32} (h : 0 ≤ x.toInt) (h' : x.toInt < 3) : x = 0 ∨ x = 1 ∨ x = 2 := by
  have e : ∀ k : Int32, x.toInt = k.toInt → x = k := fun k q => Int32.toInt_inj.mp q
  have h1 : x.toInt = 0 ∨ x.toInt = 1 ∨ x.toInt = 2 := by omega
  rcases h1 with q | q | q
  · exact Or.inl (e 0 (q.trans (by decide)))
  · exact Or.inr (Or.inl (e 1 (q.trans (by decide))))
  · exact Or.inr (Or.inr (e 2 (q.trans (by decide))))
def own_in (v a b c : Int32) : Int32 := if v = a ∨ v = b ∨ v = c then 1 else 0
theorem own_in1 {v a b c : Int32} (h : v = a ∨ v = b ∨ v = c) : own_in v a b c = 1 := if_pos h
theorem own_in0 {v a b c : Int32} (h1 : ¬ v = a) (h2 : ¬ v = b) (h3 : ¬ v = c) : own_in v a b c = 0 := if_neg fun q => q.elim h1 fun q => q.elim h2 h3
theorem own_in_nar (v a b c : Int32) : nar .boolean (own_in v a b c) = own_in v a b c := by
  by_cases h : v = a ∨ v = b ∨ v = c
  · rw [own_in1 h]; decide
  · rw [own_in0 (fun q => h (Or.inl q)) (fun q => h (Or.inr (Or.inl q))) (fun q => h (Or.inr (Or.inr q)))]; decide
theorem own_held {f : Nat → Int32} (hf : ∀ i, f i = 0) {v a b c : Int32} (hv : ¬ v < 0) (ha : ¬ a < 0) (hb : ¬ b < 0) (hc : ¬ c < 0) :
    own_upd (own_upd (own_upd f a.toNatClampNeg (nar .boolean 1)) b.toNatClampNeg (nar .boolean 1)) c.toNatClampNeg (nar .boolean 1) v.toNatClampNeg = own_in v a b c := by
  have e : nar .boolean 1 = 1 := by decide
  by_cases h3 : v = c
  · rw [own_upd_hit _ _ (by rw [h3]), own_in1 (Or.inr (Or.inr h3)), e]
  rw [own_upd_miss _ _ (own_nn hv hc h3)]
  by_cases h2 : v = b
  · rw [own_upd_hit _ _ (by rw [h2]), own_in1 (Or.inr (Or.inl h2)), e]
  rw [own_upd_miss _ _ (own_nn hv hb h2)]
  by_cases h1 : v = a
  · rw [own_upd_hit _ _ (by rw [h1]), own_in1 (Or.inl h1), e]
  rw [own_upd_miss _ _ (own_nn hv ha h1), hf, own_in0 h1 h2 h3]
def Q1 (Z : State) (a1 : Addr) (p2 : Int32) (h0 : Heap) (n0 : Nat) (v : Option Value) (h : Heap) (L : List Loc) : Prop := v = none ∧ Fr n0 L ∧ Keep h0 h [a1] ∧ ∃ am ap ah : Addr, h0.size ≤ am ∧ h0.size ≤ ap ∧ h0.size ≤ ah ∧ am ≠ ap ∧ am ≠ ah ∧ ap ≠ ah ∧ Fld Z h a1 "com/example/fickle/fickle/engine/LeapingChannels" "members" "[I" (.ref am) ∧ Fld Z h a1 "com/example/fickle/fickle/engine/LeapingChannels" "positions" "[I" (.ref ap) ∧ Fld Z h a1 "com/example/fickle/fickle/engine/LeapingChannels" "held" "[Z" (.ref ah) ∧ Fld Z h a1 "com/example/fickle/fickle/engine/LeapingChannels" "size" "I" (.int (0 : Int32)) ∧ own_A Z h am .int p2 (fun _ => 0) ∧ own_A Z h ap .int p2 (fun _ => 0) ∧ own_A Z h ah .boolean p2 (fun _ => 0)
theorem d1_0 : decode prog_25_method_1_code 0 = .ok (.aload_n 0, 1) := by decide +kernel
theorem d1_1 : decode prog_25_method_1_code 1 = .ok (.invokespecial 1, 3) := by decide +kernel
theorem d1_4 : decode prog_25_method_1_code 4 = .ok (.aload_n 0, 1) := by decide +kernel
theorem d1_5 : decode prog_25_method_1_code 5 = .ok (.iload_n 1, 1) := by decide +kernel
theorem d1_6 : decode prog_25_method_1_code 6 = .ok (.newarray .int, 2) := by decide +kernel
theorem d1_8 : decode prog_25_method_1_code 8 = .ok (.putfield 7, 3) := by decide +kernel
theorem d1_11 : decode prog_25_method_1_code 11 = .ok (.aload_n 0, 1) := by decide +kernel
theorem d1_12 : decode prog_25_method_1_code 12 = .ok (.iload_n 1, 1) := by decide +kernel
theorem d1_13 : decode prog_25_method_1_code 13 = .ok (.newarray .int, 2) := by decide +kernel
theorem d1_15 : decode prog_25_method_1_code 15 = .ok (.putfield 13, 3) := by decide +kernel
theorem d1_18 : decode prog_25_method_1_code 18 = .ok (.aload_n 0, 1) := by decide +kernel
theorem d1_19 : decode prog_25_method_1_code 19 = .ok (.iload_n 1, 1) := by decide +kernel
theorem d1_20 : decode prog_25_method_1_code 20 = .ok (.newarray .boolean, 2) := by decide +kernel
theorem d1_22 : decode prog_25_method_1_code 22 = .ok (.putfield 16, 3) := by decide +kernel
theorem d1_25 : decode prog_25_method_1_code 25 = .ok (.aload_n 0, 1) := by decide +kernel
theorem d1_26 : decode prog_25_method_1_code 26 = .ok (.iload_n 1, 1) := by decide +kernel
theorem d1_27 : decode prog_25_method_1_code 27 = .ok (.newarray .byte, 2) := by decide +kernel
theorem d1_29 : decode prog_25_method_1_code 29 = .ok (.putfield 20, 3) := by decide +kernel
theorem d1_32 : decode prog_25_method_1_code 32 = .ok (.aload_n 0, 1) := by decide +kernel
theorem d1_33 : decode prog_25_method_1_code 33 = .ok (.iload_n 1, 1) := by decide +kernel
theorem d1_34 : decode prog_25_method_1_code 34 = .ok (.newarray .int, 2) := by decide +kernel
theorem d1_36 : decode prog_25_method_1_code 36 = .ok (.putfield 24, 3) := by decide +kernel
theorem d1_39 : decode prog_25_method_1_code 39 = .ok (.aload_n 0, 1) := by decide +kernel
theorem d1_40 : decode prog_25_method_1_code 40 = .ok (.iload_n 2, 1) := by decide +kernel
theorem d1_41 : decode prog_25_method_1_code 41 = .ok (.iconst 2, 1) := by decide +kernel
theorem d1_42 : decode prog_25_method_1_code 42 = .ok (.iadd, 1) := by decide +kernel
theorem d1_43 : decode prog_25_method_1_code 43 = .ok (.newarray .int, 2) := by decide +kernel
theorem d1_45 : decode prog_25_method_1_code 45 = .ok (.putfield 27, 3) := by decide +kernel
theorem d1_48 : decode prog_25_method_1_code 48 = .ok (.return_, 1) := by decide +kernel
theorem pn_1 : plainName "com/example/fickle/fickle/engine/LeapingChannels" = true := by first | (simp [plainName, overriddenIn]; done) | decide +kernel
theorem ef_1 (m : MethodId) (x0 : Addr) (x1 : Int32) (x2 : Int32) : entryFrame m #[(.ref x0), (.int x1), (.int x2)] 3 = mkF m 0 #[.val (.ref x0), .val (.int x1), .val (.int x2)] [] := by first | (simp [entryFrame, mkF, argsToLocals, Value.category]; done) | rfl
set_option maxRecDepth 65536 in
set_option maxHeartbeats 40000000 in
theorem rm1 (l : Launch) (Z : State) (a0 : Array Value) (hw : ∀ d ∈ tables_1, d.before a0 Z = true) (ws : List Jvm.Cond) (a1 : Addr) (p2 : Int32) (h0 : Heap) (n0 : Nat) (Z0 : n0 ≤ h0.size) (E1 : Exa Z h0 a1 "com/example/fickle/fickle/engine/LeapingChannels") (F_members : Fld Z h0 a1 "com/example/fickle/fickle/engine/LeapingChannels" "members" "[I" .null) (F_positions : Fld Z h0 a1 "com/example/fickle/fickle/engine/LeapingChannels" "positions" "[I" .null) (F_held : Fld Z h0 a1 "com/example/fickle/fickle/engine/LeapingChannels" "held" "[Z" .null) (F_levels : Fld Z h0 a1 "com/example/fickle/fickle/engine/LeapingChannels" "levels" "[B" .null) (F_copied : Fld Z h0 a1 "com/example/fickle/fickle/engine/LeapingChannels" "copied" "[I" .null) (F_first : Fld Z h0 a1 "com/example/fickle/fickle/engine/LeapingChannels" "first" "[I" .null) (Fs : Fld Z h0 a1 "com/example/fickle/fickle/engine/LeapingChannels" "size" "I" (.int (0 : Int32))) (g1 : n0 ≤ a1) (hn0 : ¬ p2 < 0) (hn : p2.toNatClampNeg ≤ 10) :
    MetFree l (⟨"com/example/fickle/fickle/engine/LeapingChannels", "<init>", "(II)V"⟩ : MethodName) (head1 (Jvm.Cond.code (⟨"com/example/fickle/fickle/engine/LeapingChannels", "<init>", "(II)V"⟩ : MethodName) prog_25_method_1_code 3 none :: ws) ({ frames := 1, cells := 6, slots := 55, locals := 12 } : Room)) (fun a U => a = #[(.ref a1), (.int p2), (.int (3 : Int32))] ∧ Z.Warmed39 U.vm ∧ U.heap = h0) (fun _ _ _ _ _ => True) (fun _ U o U' => ∃ v L, o = .returned v ∧ Q1 Z a1 p2 h0 n0 v U'.heap L ∧ FrameEnd U o U' L ({ frames := 1, cells := 6, slots := 55, locals := 12 } : Room).cells ({ frames := 1, cells := 6, slots := 55, locals := 12 } : Room).slots) := by
  refine MetFree.of_bodySF (plainFor_of_name pn_1) hisR ?_
  intro p e s m args below meth c s₁ Bd hml0 hP hK
  obtain ⟨rfl, hZ, hh⟩ := hP
  have hx := Bd.exec
  have hby := Bd.bytes
  have hml : c.maxLocals = 3 := hml0
  have hown : s.vm.findClass "com/example/fickle/fickle/engine/LeapingChannels" = some m.cls := findClass_of_methodNamed Bd.named
  have hnm := (name_of_methodNamed Bd.named Bd.method).1
  have X0 : Stand p l e ({ frames := 1, cells := 6, slots := 55, locals := 12 } : Room) s m #[(.ref a1), (.int p2), (.int (3 : Int32))] below meth c s₁ [] 0 0 := Stand.of_body Bd
  have e0 : s₁.heap = h0 := by rw [← hh, Bd.state]; rfl
  have N0 := Fr.nil n0
  have pre0 : own_Go p e below (s₁.setTop (entryFrame m #[(.ref a1), (.int p2), (.int (3 : Int32))] 3)) (s₁.setTop (mkF m 0 #[.val (.ref a1), .val (.int p2), .val (.int (3 : Int32))] [])) := fun t k => castTop (ef_1 m a1 p2 (3 : Int32)) k
  have pre1 : own_Go p e below (s₁.setTop (entryFrame m #[(.ref a1), (.int p2), (.int (3 : Int32))] 3)) (s₁.setTop (mkF m 1 #[.val (.ref a1), .val (.int p2), .val (.int (3 : Int32))] [(.ref a1)])) := fun t k => pre0 t (by
      show Steps p.tables e below (s₁.setTop (mkF m 0 #[.val (.ref a1), .val (.int p2), .val (.int (3 : Int32))] [])) _
      refine XS.aloadN X0.here hx rfl (hb hby d1_0) rfl rfl ?_
      exact k)
  obtain ⟨T2, X2, e2, st2⟩ := initO X0 hx hZ hown (hw _ (List.mem_of_getElem? (i := 7) rfl)) (hw _ (List.mem_of_getElem? (i := 8) rfl)) (hw _ (List.mem_of_getElem? (i := 9) rfl)) e0 (g := (mkF m 1 #[.val (.ref a1), .val (.int p2), .val (.int (3 : Int32))] [(.ref a1)])) rfl (by rw [hml]; rfl) rfl (hb hby d1_1) (by decide) (W := 0) (by show 2 * 0 + _ ≤ _; exact Nat.le_of_eq rfl) (by decide)
  have pre3 : own_Go p e below (s₁.setTop (entryFrame m #[(.ref a1), (.int p2), (.int (3 : Int32))] 3)) (T2.setTop (mkF m 4 #[.val (.ref a1), .val (.int p2), .val (.int (3 : Int32))] [])) := fun t k => pre1 t (st2 t k)
  have pre4 : own_Go p e below (s₁.setTop (entryFrame m #[(.ref a1), (.int p2), (.int (3 : Int32))] 3)) (T2.setTop (mkF m 6 #[.val (.ref a1), .val (.int p2), .val (.int (3 : Int32))] [(.int p2), (.ref a1)])) := fun t k => pre3 t (by
      show Steps p.tables e below (T2.setTop (mkF m 4 #[.val (.ref a1), .val (.int p2), .val (.int (3 : Int32))] [])) _
      refine XS.aloadN X2.here hx rfl (hb hby d1_4) rfl rfl ?_
      show Steps p.tables e below (T2.setTop (mkF m 5 #[.val (.ref a1), .val (.int p2), .val (.int (3 : Int32))] [(.ref a1)])) _
      refine XS.iloadN X2.here hx rfl (hb hby d1_5) rfl ?_
      exact k)
  obtain ⟨T5, h5, k5, X5, e5, E5, A5, st5⟩ := newP X2 hx hZ (hw _ (List.mem_of_getElem? (i := 10) rfl)) e2 (g := (mkF m 6 #[.val (.ref a1), .val (.int p2), .val (.int (3 : Int32))] [(.int p2), (.ref a1)])) rfl (hb hby d1_6) rfl hn0 (cap := 10) hn (by decide) (by decide) (by decide)
  obtain ⟨b5, g5⟩ : ∃ z, z = h0.size := ⟨_, rfl⟩
  rw [← g5] at A5 st5
  have V5 := own_A.new A5 hn0 rfl rfl
  have pre6 : own_Go p e below (s₁.setTop (entryFrame m #[(.ref a1), (.int p2), (.int (3 : Int32))] 3)) (T5.setTop (mkF m 8 #[.val (.ref a1), .val (.int p2), .val (.int (3 : Int32))] [(.ref b5), (.ref a1)])) := fun t k => pre4 t (st5 t k)
  have F_7 := Fs.ext E5
  have F_8 := F_members.ext E5
  have F_9 := F_positions.ext E5
  have F_10 := F_held.ext E5
  have F_11 := F_levels.ext E5
  have F_12 := F_copied.ext E5
  have F_13 := F_first.ext E5
  have Ex_14 := E1.ext E5
  have K_15 := (Keep.refl h0 [a1]).ext E5
  have ne_a1_b5 : a1 ≠ b5 := Nat.ne_of_lt (Nat.lt_of_lt_of_eq E1.lt g5.symm)
  have sz_b5 : h0.size ≤ b5 := Nat.le_trans (Keep.refl h0 [a1]).1 (Nat.le_of_eq g5.symm)
  have g_b5 : n0 ≤ b5 := Nat.le_trans Z0 sz_b5
  obtain ⟨T16, h16, X16, e16, W16, st16⟩ := putF X5 hx hZ hown (host := "") (Or.inl (hw _ (List.mem_of_getElem? (i := 11) rfl))) Via.refl e5 F_8 Ex_14 (Or.inr ⟨(hw _ (List.mem_of_getElem? (i := 12) rfl)), rfl, hnm⟩) (hw _ (List.mem_of_getElem? (i := 2) rfl)) (ty := (.array .int)) (by decide) rfl rfl (g := (mkF m 8 #[.val (.ref a1), .val (.int p2), .val (.int (3 : Int32))] [(.ref b5), (.ref a1)])) rfl rfl (hb hby d1_8)
  have N16 := Fr.snoc X16 N0 g1
  have pre17 : own_Go p e below (s₁.setTop (entryFrame m #[(.ref a1), (.int p2), (.int (3 : Int32))] 3)) (T16.setTop (mkF m 11 #[.val (.ref a1), .val (.int p2), .val (.int (3 : Int32))] [])) := fun t k => pre6 t (st16 t k)
  have F_18 := F_7.other W16 (Or.inr (slot_ne (Or.inl (hw _ (List.mem_of_getElem? (i := 31) rfl))) (Or.inr (hw _ (List.mem_of_getElem? (i := 12) rfl))) (by decide) (t := .int) (by decide) (t' := (.array .int)) (by decide)))
  have F_19 := F_8.same W16
  have F_20 := F_9.other W16 (Or.inr (slot_ne (Or.inr (hw _ (List.mem_of_getElem? (i := 14) rfl))) (Or.inr (hw _ (List.mem_of_getElem? (i := 12) rfl))) (by decide) (t := (.array .int)) (by decide) (t' := (.array .int)) (by decide)))
  have F_21 := F_10.other W16 (Or.inr (slot_ne (Or.inr (hw _ (List.mem_of_getElem? (i := 17) rfl))) (Or.inr (hw _ (List.mem_of_getElem? (i := 12) rfl))) (by decide) (t := (.array .boolean)) (by decide) (t' := (.array .int)) (by decide)))
  have F_22 := F_11.other W16 (Or.inr (slot_ne (Or.inr (hw _ (List.mem_of_getElem? (i := 20) rfl))) (Or.inr (hw _ (List.mem_of_getElem? (i := 12) rfl))) (by decide) (t := (.array .byte)) (by decide) (t' := (.array .int)) (by decide)))
  have F_23 := F_12.other W16 (Or.inr (slot_ne (Or.inr (hw _ (List.mem_of_getElem? (i := 22) rfl))) (Or.inr (hw _ (List.mem_of_getElem? (i := 12) rfl))) (by decide) (t := (.array .int)) (by decide) (t' := (.array .int)) (by decide)))
  have F_24 := F_13.other W16 (Or.inr (slot_ne (Or.inr (hw _ (List.mem_of_getElem? (i := 24) rfl))) (Or.inr (hw _ (List.mem_of_getElem? (i := 12) rfl))) (by decide) (t := (.array .int)) (by decide) (t' := (.array .int)) (by decide)))
  have Ex_25 := Ex_14.wr W16
  have V_26 := V5.other W16 (Ne.symm ne_a1_b5)
  have K_27 := K_15.wr W16 (Or.inl (List.mem_of_getElem? (i := 0) rfl))
  have pre28 : own_Go p e below (s₁.setTop (entryFrame m #[(.ref a1), (.int p2), (.int (3 : Int32))] 3)) (T16.setTop (mkF m 13 #[.val (.ref a1), .val (.int p2), .val (.int (3 : Int32))] [(.int p2), (.ref a1)])) := fun t k => pre17 t (by
      show Steps p.tables e below (T16.setTop (mkF m 11 #[.val (.ref a1), .val (.int p2), .val (.int (3 : Int32))] [])) _
      refine XS.aloadN X16.here hx rfl (hb hby d1_11) rfl rfl ?_
      show Steps p.tables e below (T16.setTop (mkF m 12 #[.val (.ref a1), .val (.int p2), .val (.int (3 : Int32))] [(.ref a1)])) _
      refine XS.iloadN X16.here hx rfl (hb hby d1_12) rfl ?_
      exact k)
  obtain ⟨T29, h29, k29, X29, e29, E29, A29, st29⟩ := newP X16 hx hZ (hw _ (List.mem_of_getElem? (i := 10) rfl)) e16 (g := (mkF m 13 #[.val (.ref a1), .val (.int p2), .val (.int (3 : Int32))] [(.int p2), (.ref a1)])) rfl (hb hby d1_13) rfl hn0 (cap := 10) hn (by decide) (by decide) (by decide)
  obtain ⟨b29, g29⟩ : ∃ z, z = h16.size := ⟨_, rfl⟩
  rw [← g29] at A29 st29
  have V29 := own_A.new A29 hn0 rfl rfl
  have pre30 : own_Go p e below (s₁.setTop (entryFrame m #[(.ref a1), (.int p2), (.int (3 : Int32))] 3)) (T29.setTop (mkF m 15 #[.val (.ref a1), .val (.int p2), .val (.int (3 : Int32))] [(.ref b29), (.ref a1)])) := fun t k => pre28 t (st29 t k)
  have F_31 := F_18.ext E29
  have F_32 := F_19.ext E29
  have F_33 := F_20.ext E29
  have F_34 := F_21.ext E29
  have F_35 := F_22.ext E29
  have F_36 := F_23.ext E29
  have F_37 := F_24.ext E29
  have Ex_38 := Ex_25.ext E29
  have V_39 := V_26.ext E29
  have K_40 := K_27.ext E29
  have ne_a1_b29 : a1 ≠ b29 := Nat.ne_of_lt (Nat.lt_of_lt_of_eq Ex_25.lt g29.symm)
  have ne_b5_b29 : b5 ≠ b29 := Nat.ne_of_lt (Nat.lt_of_lt_of_eq V_26.lt g29.symm)
  have sz_b29 : h0.size ≤ b29 := Nat.le_trans K_27.1 (Nat.le_of_eq g29.symm)
  have g_b29 : n0 ≤ b29 := Nat.le_trans Z0 sz_b29
  obtain ⟨T41, h41, X41, e41, W41, st41⟩ := putF X29 hx hZ hown (host := "") (Or.inl (hw _ (List.mem_of_getElem? (i := 13) rfl))) Via.refl e29 F_33 Ex_38 (Or.inr ⟨(hw _ (List.mem_of_getElem? (i := 14) rfl)), rfl, hnm⟩) (hw _ (List.mem_of_getElem? (i := 2) rfl)) (ty := (.array .int)) (by decide) rfl rfl (g := (mkF m 15 #[.val (.ref a1), .val (.int p2), .val (.int (3 : Int32))] [(.ref b29), (.ref a1)])) rfl rfl (hb hby d1_15)
  have N41 := Fr.snoc X41 N16 g1
  have pre42 : own_Go p e below (s₁.setTop (entryFrame m #[(.ref a1), (.int p2), (.int (3 : Int32))] 3)) (T41.setTop (mkF m 18 #[.val (.ref a1), .val (.int p2), .val (.int (3 : Int32))] [])) := fun t k => pre30 t (st41 t k)
  have F_43 := F_31.other W41 (Or.inr (slot_ne (Or.inl (hw _ (List.mem_of_getElem? (i := 31) rfl))) (Or.inr (hw _ (List.mem_of_getElem? (i := 14) rfl))) (by decide) (t := .int) (by decide) (t' := (.array .int)) (by decide)))
  have F_44 := F_32.other W41 (Or.inr (slot_ne (Or.inr (hw _ (List.mem_of_getElem? (i := 12) rfl))) (Or.inr (hw _ (List.mem_of_getElem? (i := 14) rfl))) (by decide) (t := (.array .int)) (by decide) (t' := (.array .int)) (by decide)))
  have F_45 := F_33.same W41
  have F_46 := F_34.other W41 (Or.inr (slot_ne (Or.inr (hw _ (List.mem_of_getElem? (i := 17) rfl))) (Or.inr (hw _ (List.mem_of_getElem? (i := 14) rfl))) (by decide) (t := (.array .boolean)) (by decide) (t' := (.array .int)) (by decide)))
  have F_47 := F_35.other W41 (Or.inr (slot_ne (Or.inr (hw _ (List.mem_of_getElem? (i := 20) rfl))) (Or.inr (hw _ (List.mem_of_getElem? (i := 14) rfl))) (by decide) (t := (.array .byte)) (by decide) (t' := (.array .int)) (by decide)))
  have F_48 := F_36.other W41 (Or.inr (slot_ne (Or.inr (hw _ (List.mem_of_getElem? (i := 22) rfl))) (Or.inr (hw _ (List.mem_of_getElem? (i := 14) rfl))) (by decide) (t := (.array .int)) (by decide) (t' := (.array .int)) (by decide)))
  have F_49 := F_37.other W41 (Or.inr (slot_ne (Or.inr (hw _ (List.mem_of_getElem? (i := 24) rfl))) (Or.inr (hw _ (List.mem_of_getElem? (i := 14) rfl))) (by decide) (t := (.array .int)) (by decide) (t' := (.array .int)) (by decide)))
  have Ex_50 := Ex_38.wr W41
  have V_51 := V_39.other W41 (Ne.symm ne_a1_b5)
  have V_52 := V29.other W41 (Ne.symm ne_a1_b29)
  have K_53 := K_40.wr W41 (Or.inl (List.mem_of_getElem? (i := 0) rfl))
  have pre54 : own_Go p e below (s₁.setTop (entryFrame m #[(.ref a1), (.int p2), (.int (3 : Int32))] 3)) (T41.setTop (mkF m 20 #[.val (.ref a1), .val (.int p2), .val (.int (3 : Int32))] [(.int p2), (.ref a1)])) := fun t k => pre42 t (by
      show Steps p.tables e below (T41.setTop (mkF m 18 #[.val (.ref a1), .val (.int p2), .val (.int (3 : Int32))] [])) _
      refine XS.aloadN X41.here hx rfl (hb hby d1_18) rfl rfl ?_
      show Steps p.tables e below (T41.setTop (mkF m 19 #[.val (.ref a1), .val (.int p2), .val (.int (3 : Int32))] [(.ref a1)])) _
      refine XS.iloadN X41.here hx rfl (hb hby d1_19) rfl ?_
      exact k)
  obtain ⟨T55, h55, k55, X55, e55, E55, A55, st55⟩ := newP X41 hx hZ (hw _ (List.mem_of_getElem? (i := 15) rfl)) e41 (g := (mkF m 20 #[.val (.ref a1), .val (.int p2), .val (.int (3 : Int32))] [(.int p2), (.ref a1)])) rfl (hb hby d1_20) rfl hn0 (cap := 10) hn (by decide) (by decide) (by decide)
  obtain ⟨b55, g55⟩ : ∃ z, z = h41.size := ⟨_, rfl⟩
  rw [← g55] at A55 st55
  have V55 := own_A.new A55 hn0 rfl rfl
  have pre56 : own_Go p e below (s₁.setTop (entryFrame m #[(.ref a1), (.int p2), (.int (3 : Int32))] 3)) (T55.setTop (mkF m 22 #[.val (.ref a1), .val (.int p2), .val (.int (3 : Int32))] [(.ref b55), (.ref a1)])) := fun t k => pre54 t (st55 t k)
  have F_57 := F_43.ext E55
  have F_58 := F_44.ext E55
  have F_59 := F_45.ext E55
  have F_60 := F_46.ext E55
  have F_61 := F_47.ext E55
  have F_62 := F_48.ext E55
  have F_63 := F_49.ext E55
  have Ex_64 := Ex_50.ext E55
  have V_65 := V_51.ext E55
  have V_66 := V_52.ext E55
  have K_67 := K_53.ext E55
  have ne_a1_b55 : a1 ≠ b55 := Nat.ne_of_lt (Nat.lt_of_lt_of_eq Ex_50.lt g55.symm)
  have ne_b5_b55 : b5 ≠ b55 := Nat.ne_of_lt (Nat.lt_of_lt_of_eq V_51.lt g55.symm)
  have ne_b29_b55 : b29 ≠ b55 := Nat.ne_of_lt (Nat.lt_of_lt_of_eq V_52.lt g55.symm)
  have sz_b55 : h0.size ≤ b55 := Nat.le_trans K_53.1 (Nat.le_of_eq g55.symm)
  have g_b55 : n0 ≤ b55 := Nat.le_trans Z0 sz_b55
  obtain ⟨T68, h68, X68, e68, W68, st68⟩ := putF X55 hx hZ hown (host := "") (Or.inl (hw _ (List.mem_of_getElem? (i := 16) rfl))) Via.refl e55 F_60 Ex_64 (Or.inr ⟨(hw _ (List.mem_of_getElem? (i := 17) rfl)), rfl, hnm⟩) (hw _ (List.mem_of_getElem? (i := 2) rfl)) (ty := (.array .boolean)) (by decide) rfl rfl (g := (mkF m 22 #[.val (.ref a1), .val (.int p2), .val (.int (3 : Int32))] [(.ref b55), (.ref a1)])) rfl rfl (hb hby d1_22)
  have N68 := Fr.snoc X68 N41 g1
  have pre69 : own_Go p e below (s₁.setTop (entryFrame m #[(.ref a1), (.int p2), (.int (3 : Int32))] 3)) (T68.setTop (mkF m 25 #[.val (.ref a1), .val (.int p2), .val (.int (3 : Int32))] [])) := fun t k => pre56 t (st68 t k)
  have F_70 := F_57.other W68 (Or.inr (slot_ne (Or.inl (hw _ (List.mem_of_getElem? (i := 31) rfl))) (Or.inr (hw _ (List.mem_of_getElem? (i := 17) rfl))) (by decide) (t := .int) (by decide) (t' := (.array .boolean)) (by decide)))
  have F_71 := F_58.other W68 (Or.inr (slot_ne (Or.inr (hw _ (List.mem_of_getElem? (i := 12) rfl))) (Or.inr (hw _ (List.mem_of_getElem? (i := 17) rfl))) (by decide) (t := (.array .int)) (by decide) (t' := (.array .boolean)) (by decide)))
  have F_72 := F_59.other W68 (Or.inr (slot_ne (Or.inr (hw _ (List.mem_of_getElem? (i := 14) rfl))) (Or.inr (hw _ (List.mem_of_getElem? (i := 17) rfl))) (by decide) (t := (.array .int)) (by decide) (t' := (.array .boolean)) (by decide)))
  have F_73 := F_60.same W68
  have F_74 := F_61.other W68 (Or.inr (slot_ne (Or.inr (hw _ (List.mem_of_getElem? (i := 20) rfl))) (Or.inr (hw _ (List.mem_of_getElem? (i := 17) rfl))) (by decide) (t := (.array .byte)) (by decide) (t' := (.array .boolean)) (by decide)))
  have F_75 := F_62.other W68 (Or.inr (slot_ne (Or.inr (hw _ (List.mem_of_getElem? (i := 22) rfl))) (Or.inr (hw _ (List.mem_of_getElem? (i := 17) rfl))) (by decide) (t := (.array .int)) (by decide) (t' := (.array .boolean)) (by decide)))
  have F_76 := F_63.other W68 (Or.inr (slot_ne (Or.inr (hw _ (List.mem_of_getElem? (i := 24) rfl))) (Or.inr (hw _ (List.mem_of_getElem? (i := 17) rfl))) (by decide) (t := (.array .int)) (by decide) (t' := (.array .boolean)) (by decide)))
  have Ex_77 := Ex_64.wr W68
  have V_78 := V_65.other W68 (Ne.symm ne_a1_b5)
  have V_79 := V_66.other W68 (Ne.symm ne_a1_b29)
  have V_80 := V55.other W68 (Ne.symm ne_a1_b55)
  have K_81 := K_67.wr W68 (Or.inl (List.mem_of_getElem? (i := 0) rfl))
  have pre82 : own_Go p e below (s₁.setTop (entryFrame m #[(.ref a1), (.int p2), (.int (3 : Int32))] 3)) (T68.setTop (mkF m 27 #[.val (.ref a1), .val (.int p2), .val (.int (3 : Int32))] [(.int p2), (.ref a1)])) := fun t k => pre69 t (by
      show Steps p.tables e below (T68.setTop (mkF m 25 #[.val (.ref a1), .val (.int p2), .val (.int (3 : Int32))] [])) _
      refine XS.aloadN X68.here hx rfl (hb hby d1_25) rfl rfl ?_
      show Steps p.tables e below (T68.setTop (mkF m 26 #[.val (.ref a1), .val (.int p2), .val (.int (3 : Int32))] [(.ref a1)])) _
      refine XS.iloadN X68.here hx rfl (hb hby d1_26) rfl ?_
      exact k)
  obtain ⟨T83, h83, k83, X83, e83, E83, A83, st83⟩ := newP X68 hx hZ (hw _ (List.mem_of_getElem? (i := 18) rfl)) e68 (g := (mkF m 27 #[.val (.ref a1), .val (.int p2), .val (.int (3 : Int32))] [(.int p2), (.ref a1)])) rfl (hb hby d1_27) rfl hn0 (cap := 10) hn (by decide) (by decide) (by decide)
  obtain ⟨b83, g83⟩ : ∃ z, z = h68.size := ⟨_, rfl⟩
  rw [← g83] at A83 st83
  have V83 := own_A.new A83 hn0 rfl rfl
  have pre84 : own_Go p e below (s₁.setTop (entryFrame m #[(.ref a1), (.int p2), (.int (3 : Int32))] 3)) (T83.setTop (mkF m 29 #[.val (.ref a1), .val (.int p2), .val (.int (3 : Int32))] [(.ref b83), (.ref a1)])) := fun t k => pre82 t (st83 t k)
  have F_85 := F_70.ext E83
  have F_86 := F_71.ext E83
  have F_87 := F_72.ext E83
  have F_88 := F_73.ext E83
  have F_89 := F_74.ext E83
  have F_90 := F_75.ext E83
  have F_91 := F_76.ext E83
  have Ex_92 := Ex_77.ext E83
  have V_93 := V_78.ext E83
  have V_94 := V_79.ext E83
  have V_95 := V_80.ext E83
  have K_96 := K_81.ext E83
  have ne_a1_b83 : a1 ≠ b83 := Nat.ne_of_lt (Nat.lt_of_lt_of_eq Ex_77.lt g83.symm)
  have ne_b5_b83 : b5 ≠ b83 := Nat.ne_of_lt (Nat.lt_of_lt_of_eq V_78.lt g83.symm)
  have ne_b29_b83 : b29 ≠ b83 := Nat.ne_of_lt (Nat.lt_of_lt_of_eq V_79.lt g83.symm)
  have ne_b55_b83 : b55 ≠ b83 := Nat.ne_of_lt (Nat.lt_of_lt_of_eq V_80.lt g83.symm)
  have sz_b83 : h0.size ≤ b83 := Nat.le_trans K_81.1 (Nat.le_of_eq g83.symm)
  have g_b83 : n0 ≤ b83 := Nat.le_trans Z0 sz_b83
  obtain ⟨T97, h97, X97, e97, W97, st97⟩ := putF X83 hx hZ hown (host := "") (Or.inl (hw _ (List.mem_of_getElem? (i := 19) rfl))) Via.refl e83 F_89 Ex_92 (Or.inr ⟨(hw _ (List.mem_of_getElem? (i := 20) rfl)), rfl, hnm⟩) (hw _ (List.mem_of_getElem? (i := 2) rfl)) (ty := (.array .byte)) (by decide) rfl rfl (g := (mkF m 29 #[.val (.ref a1), .val (.int p2), .val (.int (3 : Int32))] [(.ref b83), (.ref a1)])) rfl rfl (hb hby d1_29)
  have N97 := Fr.snoc X97 N68 g1
  have pre98 : own_Go p e below (s₁.setTop (entryFrame m #[(.ref a1), (.int p2), (.int (3 : Int32))] 3)) (T97.setTop (mkF m 32 #[.val (.ref a1), .val (.int p2), .val (.int (3 : Int32))] [])) := fun t k => pre84 t (st97 t k)
  have F_99 := F_85.other W97 (Or.inr (slot_ne (Or.inl (hw _ (List.mem_of_getElem? (i := 31) rfl))) (Or.inr (hw _ (List.mem_of_getElem? (i := 20) rfl))) (by decide) (t := .int) (by decide) (t' := (.array .byte)) (by decide)))
  have F_100 := F_86.other W97 (Or.inr (slot_ne (Or.inr (hw _ (List.mem_of_getElem? (i := 12) rfl))) (Or.inr (hw _ (List.mem_of_getElem? (i := 20) rfl))) (by decide) (t := (.array .int)) (by decide) (t' := (.array .byte)) (by decide)))
  have F_101 := F_87.other W97 (Or.inr (slot_ne (Or.inr (hw _ (List.mem_of_getElem? (i := 14) rfl))) (Or.inr (hw _ (List.mem_of_getElem? (i := 20) rfl))) (by decide) (t := (.array .int)) (by decide) (t' := (.array .byte)) (by decide)))
  have F_102 := F_88.other W97 (Or.inr (slot_ne (Or.inr (hw _ (List.mem_of_getElem? (i := 17) rfl))) (Or.inr (hw _ (List.mem_of_getElem? (i := 20) rfl))) (by decide) (t := (.array .boolean)) (by decide) (t' := (.array .byte)) (by decide)))
  have F_103 := F_89.same W97
  have F_104 := F_90.other W97 (Or.inr (slot_ne (Or.inr (hw _ (List.mem_of_getElem? (i := 22) rfl))) (Or.inr (hw _ (List.mem_of_getElem? (i := 20) rfl))) (by decide) (t := (.array .int)) (by decide) (t' := (.array .byte)) (by decide)))
  have F_105 := F_91.other W97 (Or.inr (slot_ne (Or.inr (hw _ (List.mem_of_getElem? (i := 24) rfl))) (Or.inr (hw _ (List.mem_of_getElem? (i := 20) rfl))) (by decide) (t := (.array .int)) (by decide) (t' := (.array .byte)) (by decide)))
  have Ex_106 := Ex_92.wr W97
  have V_107 := V_93.other W97 (Ne.symm ne_a1_b5)
  have V_108 := V_94.other W97 (Ne.symm ne_a1_b29)
  have V_109 := V_95.other W97 (Ne.symm ne_a1_b55)
  have V_110 := V83.other W97 (Ne.symm ne_a1_b83)
  have K_111 := K_96.wr W97 (Or.inl (List.mem_of_getElem? (i := 0) rfl))
  have pre112 : own_Go p e below (s₁.setTop (entryFrame m #[(.ref a1), (.int p2), (.int (3 : Int32))] 3)) (T97.setTop (mkF m 34 #[.val (.ref a1), .val (.int p2), .val (.int (3 : Int32))] [(.int p2), (.ref a1)])) := fun t k => pre98 t (by
      show Steps p.tables e below (T97.setTop (mkF m 32 #[.val (.ref a1), .val (.int p2), .val (.int (3 : Int32))] [])) _
      refine XS.aloadN X97.here hx rfl (hb hby d1_32) rfl rfl ?_
      show Steps p.tables e below (T97.setTop (mkF m 33 #[.val (.ref a1), .val (.int p2), .val (.int (3 : Int32))] [(.ref a1)])) _
      refine XS.iloadN X97.here hx rfl (hb hby d1_33) rfl ?_
      exact k)
  obtain ⟨T113, h113, k113, X113, e113, E113, A113, st113⟩ := newP X97 hx hZ (hw _ (List.mem_of_getElem? (i := 10) rfl)) e97 (g := (mkF m 34 #[.val (.ref a1), .val (.int p2), .val (.int (3 : Int32))] [(.int p2), (.ref a1)])) rfl (hb hby d1_34) rfl hn0 (cap := 10) hn (by decide) (by decide) (by decide)
  obtain ⟨b113, g113⟩ : ∃ z, z = h97.size := ⟨_, rfl⟩
  rw [← g113] at A113 st113
  have V113 := own_A.new A113 hn0 rfl rfl
  have pre114 : own_Go p e below (s₁.setTop (entryFrame m #[(.ref a1), (.int p2), (.int (3 : Int32))] 3)) (T113.setTop (mkF m 36 #[.val (.ref a1), .val (.int p2), .val (.int (3 : Int32))] [(.ref b113), (.ref a1)])) := fun t k => pre112 t (st113 t k)
  have F_115 := F_99.ext E113
  have F_116 := F_100.ext E113
  have F_117 := F_101.ext E113
  have F_118 := F_102.ext E113
  have F_119 := F_103.ext E113
  have F_120 := F_104.ext E113
  have F_121 := F_105.ext E113
  have Ex_122 := Ex_106.ext E113
  have V_123 := V_107.ext E113
  have V_124 := V_108.ext E113
  have V_125 := V_109.ext E113
  have V_126 := V_110.ext E113
  have K_127 := K_111.ext E113
  have ne_a1_b113 : a1 ≠ b113 := Nat.ne_of_lt (Nat.lt_of_lt_of_eq Ex_106.lt g113.symm)
  have ne_b5_b113 : b5 ≠ b113 := Nat.ne_of_lt (Nat.lt_of_lt_of_eq V_107.lt g113.symm)
  have ne_b29_b113 : b29 ≠ b113 := Nat.ne_of_lt (Nat.lt_of_lt_of_eq V_108.lt g113.symm)
  have ne_b55_b113 : b55 ≠ b113 := Nat.ne_of_lt (Nat.lt_of_lt_of_eq V_109.lt g113.symm)
  have ne_b83_b113 : b83 ≠ b113 := Nat.ne_of_lt (Nat.lt_of_lt_of_eq V_110.lt g113.symm)
  have sz_b113 : h0.size ≤ b113 := Nat.le_trans K_111.1 (Nat.le_of_eq g113.symm)
  have g_b113 : n0 ≤ b113 := Nat.le_trans Z0 sz_b113
  obtain ⟨T128, h128, X128, e128, W128, st128⟩ := putF X113 hx hZ hown (host := "") (Or.inl (hw _ (List.mem_of_getElem? (i := 21) rfl))) Via.refl e113 F_120 Ex_122 (Or.inr ⟨(hw _ (List.mem_of_getElem? (i := 22) rfl)), rfl, hnm⟩) (hw _ (List.mem_of_getElem? (i := 2) rfl)) (ty := (.array .int)) (by decide) rfl rfl (g := (mkF m 36 #[.val (.ref a1), .val (.int p2), .val (.int (3 : Int32))] [(.ref b113), (.ref a1)])) rfl rfl (hb hby d1_36)
  have N128 := Fr.snoc X128 N97 g1
  have pre129 : own_Go p e below (s₁.setTop (entryFrame m #[(.ref a1), (.int p2), (.int (3 : Int32))] 3)) (T128.setTop (mkF m 39 #[.val (.ref a1), .val (.int p2), .val (.int (3 : Int32))] [])) := fun t k => pre114 t (st128 t k)
  have F_130 := F_115.other W128 (Or.inr (slot_ne (Or.inl (hw _ (List.mem_of_getElem? (i := 31) rfl))) (Or.inr (hw _ (List.mem_of_getElem? (i := 22) rfl))) (by decide) (t := .int) (by decide) (t' := (.array .int)) (by decide)))
  have F_131 := F_116.other W128 (Or.inr (slot_ne (Or.inr (hw _ (List.mem_of_getElem? (i := 12) rfl))) (Or.inr (hw _ (List.mem_of_getElem? (i := 22) rfl))) (by decide) (t := (.array .int)) (by decide) (t' := (.array .int)) (by decide)))
  have F_132 := F_117.other W128 (Or.inr (slot_ne (Or.inr (hw _ (List.mem_of_getElem? (i := 14) rfl))) (Or.inr (hw _ (List.mem_of_getElem? (i := 22) rfl))) (by decide) (t := (.array .int)) (by decide) (t' := (.array .int)) (by decide)))
  have F_133 := F_118.other W128 (Or.inr (slot_ne (Or.inr (hw _ (List.mem_of_getElem? (i := 17) rfl))) (Or.inr (hw _ (List.mem_of_getElem? (i := 22) rfl))) (by decide) (t := (.array .boolean)) (by decide) (t' := (.array .int)) (by decide)))
  have F_134 := F_119.other W128 (Or.inr (slot_ne (Or.inr (hw _ (List.mem_of_getElem? (i := 20) rfl))) (Or.inr (hw _ (List.mem_of_getElem? (i := 22) rfl))) (by decide) (t := (.array .byte)) (by decide) (t' := (.array .int)) (by decide)))
  have F_135 := F_120.same W128
  have F_136 := F_121.other W128 (Or.inr (slot_ne (Or.inr (hw _ (List.mem_of_getElem? (i := 24) rfl))) (Or.inr (hw _ (List.mem_of_getElem? (i := 22) rfl))) (by decide) (t := (.array .int)) (by decide) (t' := (.array .int)) (by decide)))
  have Ex_137 := Ex_122.wr W128
  have V_138 := V_123.other W128 (Ne.symm ne_a1_b5)
  have V_139 := V_124.other W128 (Ne.symm ne_a1_b29)
  have V_140 := V_125.other W128 (Ne.symm ne_a1_b55)
  have V_141 := V_126.other W128 (Ne.symm ne_a1_b83)
  have V_142 := V113.other W128 (Ne.symm ne_a1_b113)
  have K_143 := K_127.wr W128 (Or.inl (List.mem_of_getElem? (i := 0) rfl))
  have pre144 : own_Go p e below (s₁.setTop (entryFrame m #[(.ref a1), (.int p2), (.int (3 : Int32))] 3)) (T128.setTop (mkF m 43 #[.val (.ref a1), .val (.int p2), .val (.int (3 : Int32))] [(.int ((3 : Int32) + (2 : Int32))), (.ref a1)])) := fun t k => pre129 t (by
      show Steps p.tables e below (T128.setTop (mkF m 39 #[.val (.ref a1), .val (.int p2), .val (.int (3 : Int32))] [])) _
      refine XS.aloadN X128.here hx rfl (hb hby d1_39) rfl rfl ?_
      show Steps p.tables e below (T128.setTop (mkF m 40 #[.val (.ref a1), .val (.int p2), .val (.int (3 : Int32))] [(.ref a1)])) _
      refine XS.iloadN X128.here hx rfl (hb hby d1_40) rfl ?_
      show Steps p.tables e below (T128.setTop (mkF m 41 #[.val (.ref a1), .val (.int p2), .val (.int (3 : Int32))] [(.int (3 : Int32)), (.ref a1)])) _
      refine XS.iconst X128.here hx rfl (hb hby d1_41) ?_
      show Steps p.tables e below (T128.setTop (mkF m 42 #[.val (.ref a1), .val (.int p2), .val (.int (3 : Int32))] [(.int (2 : Int32)), (.int (3 : Int32)), (.ref a1)])) _
      refine XS.iadd X128.here hx rfl (hb hby d1_42) rfl ?_
      exact k)
  obtain ⟨T145, h145, k145, X145, e145, E145, A145, st145⟩ := newP X128 hx hZ (hw _ (List.mem_of_getElem? (i := 10) rfl)) e128 (g := (mkF m 43 #[.val (.ref a1), .val (.int p2), .val (.int (3 : Int32))] [(.int ((3 : Int32) + (2 : Int32))), (.ref a1)])) rfl (hb hby d1_43) rfl (by decide) (cap := 5) (by decide) (by decide) (by decide) (by decide)
  obtain ⟨b145, g145⟩ : ∃ z, z = h128.size := ⟨_, rfl⟩
  rw [← g145] at A145 st145
  have V145 := own_A.new A145 (by decide) rfl rfl
  have pre146 : own_Go p e below (s₁.setTop (entryFrame m #[(.ref a1), (.int p2), (.int (3 : Int32))] 3)) (T145.setTop (mkF m 45 #[.val (.ref a1), .val (.int p2), .val (.int (3 : Int32))] [(.ref b145), (.ref a1)])) := fun t k => pre144 t (st145 t k)
  have F_147 := F_130.ext E145
  have F_148 := F_131.ext E145
  have F_149 := F_132.ext E145
  have F_150 := F_133.ext E145
  have F_151 := F_134.ext E145
  have F_152 := F_135.ext E145
  have F_153 := F_136.ext E145
  have Ex_154 := Ex_137.ext E145
  have V_155 := V_138.ext E145
  have V_156 := V_139.ext E145
  have V_157 := V_140.ext E145
  have V_158 := V_141.ext E145
  have V_159 := V_142.ext E145
  have K_160 := K_143.ext E145
  have ne_a1_b145 : a1 ≠ b145 := Nat.ne_of_lt (Nat.lt_of_lt_of_eq Ex_137.lt g145.symm)
  have ne_b5_b145 : b5 ≠ b145 := Nat.ne_of_lt (Nat.lt_of_lt_of_eq V_138.lt g145.symm)
  have ne_b29_b145 : b29 ≠ b145 := Nat.ne_of_lt (Nat.lt_of_lt_of_eq V_139.lt g145.symm)
  have ne_b55_b145 : b55 ≠ b145 := Nat.ne_of_lt (Nat.lt_of_lt_of_eq V_140.lt g145.symm)
  have ne_b83_b145 : b83 ≠ b145 := Nat.ne_of_lt (Nat.lt_of_lt_of_eq V_141.lt g145.symm)
  have ne_b113_b145 : b113 ≠ b145 := Nat.ne_of_lt (Nat.lt_of_lt_of_eq V_142.lt g145.symm)
  have sz_b145 : h0.size ≤ b145 := Nat.le_trans K_143.1 (Nat.le_of_eq g145.symm)
  have g_b145 : n0 ≤ b145 := Nat.le_trans Z0 sz_b145
  obtain ⟨T161, h161, X161, e161, W161, st161⟩ := putF X145 hx hZ hown (host := "") (Or.inl (hw _ (List.mem_of_getElem? (i := 23) rfl))) Via.refl e145 F_153 Ex_154 (Or.inr ⟨(hw _ (List.mem_of_getElem? (i := 24) rfl)), rfl, hnm⟩) (hw _ (List.mem_of_getElem? (i := 2) rfl)) (ty := (.array .int)) (by decide) rfl rfl (g := (mkF m 45 #[.val (.ref a1), .val (.int p2), .val (.int (3 : Int32))] [(.ref b145), (.ref a1)])) rfl rfl (hb hby d1_45)
  have N161 := Fr.snoc X161 N128 g1
  have pre162 : own_Go p e below (s₁.setTop (entryFrame m #[(.ref a1), (.int p2), (.int (3 : Int32))] 3)) (T161.setTop (mkF m 48 #[.val (.ref a1), .val (.int p2), .val (.int (3 : Int32))] [])) := fun t k => pre146 t (st161 t k)
  have F_163 := F_147.other W161 (Or.inr (slot_ne (Or.inl (hw _ (List.mem_of_getElem? (i := 31) rfl))) (Or.inr (hw _ (List.mem_of_getElem? (i := 24) rfl))) (by decide) (t := .int) (by decide) (t' := (.array .int)) (by decide)))
  have F_164 := F_148.other W161 (Or.inr (slot_ne (Or.inr (hw _ (List.mem_of_getElem? (i := 12) rfl))) (Or.inr (hw _ (List.mem_of_getElem? (i := 24) rfl))) (by decide) (t := (.array .int)) (by decide) (t' := (.array .int)) (by decide)))
  have F_165 := F_149.other W161 (Or.inr (slot_ne (Or.inr (hw _ (List.mem_of_getElem? (i := 14) rfl))) (Or.inr (hw _ (List.mem_of_getElem? (i := 24) rfl))) (by decide) (t := (.array .int)) (by decide) (t' := (.array .int)) (by decide)))
  have F_166 := F_150.other W161 (Or.inr (slot_ne (Or.inr (hw _ (List.mem_of_getElem? (i := 17) rfl))) (Or.inr (hw _ (List.mem_of_getElem? (i := 24) rfl))) (by decide) (t := (.array .boolean)) (by decide) (t' := (.array .int)) (by decide)))
  have F_167 := F_151.other W161 (Or.inr (slot_ne (Or.inr (hw _ (List.mem_of_getElem? (i := 20) rfl))) (Or.inr (hw _ (List.mem_of_getElem? (i := 24) rfl))) (by decide) (t := (.array .byte)) (by decide) (t' := (.array .int)) (by decide)))
  have F_168 := F_152.other W161 (Or.inr (slot_ne (Or.inr (hw _ (List.mem_of_getElem? (i := 22) rfl))) (Or.inr (hw _ (List.mem_of_getElem? (i := 24) rfl))) (by decide) (t := (.array .int)) (by decide) (t' := (.array .int)) (by decide)))
  have F_169 := F_153.same W161
  have Ex_170 := Ex_154.wr W161
  have V_171 := V_155.other W161 (Ne.symm ne_a1_b5)
  have V_172 := V_156.other W161 (Ne.symm ne_a1_b29)
  have V_173 := V_157.other W161 (Ne.symm ne_a1_b55)
  have V_174 := V_158.other W161 (Ne.symm ne_a1_b83)
  have V_175 := V_159.other W161 (Ne.symm ne_a1_b113)
  have V_176 := V145.other W161 (Ne.symm ne_a1_b145)
  have K_177 := K_160.wr W161 (Or.inl (List.mem_of_getElem? (i := 0) rfl))
  obtain ⟨fs, hr, hrun, hended, hW, hsame⟩ := X161.leave (v := none) (fun _ => rfl)
  refine ⟨_, _, pre162 _ ?_, hrun, hended, _, _, rfl, ?_, ⟨_, rfl⟩, hW, hsame.mono (by decide) (by decide)⟩
  · show Steps p.tables e below (T161.setTop (mkF m 48 #[.val (.ref a1), .val (.int p2), .val (.int (3 : Int32))] [])) _
    exact X161.returnOut hx Bd.returns (hb hby d1_48) hr
  · show Q1 Z a1 p2 h0 n0 _ T161.heap _
    rw [e161]
    exact ⟨rfl, N161, K_177, b5, b29, b55, sz_b5, sz_b29, sz_b55, ne_b5_b29, ne_b5_b55, ne_b29_b55, F_164, F_165, F_166, F_163, V_171, V_172, V_173⟩
def Q2 (Z : State) (p2 : Int32) (a1 am ap ah : Addr) (sz nn : Int32) (fm fp fh : Nat → Int32) (sz' : Int32) (h0 : Heap) (n0 : Nat) (v : Option Value) (h : Heap) (L : List Loc) : Prop := v = none ∧ Fr n0 L ∧ Keep h0 h [a1, am, ap, ah] ∧ Fld Z h a1 "com/example/fickle/fickle/engine/LeapingChannels" "members" "[I" (.ref am) ∧ Fld Z h a1 "com/example/fickle/fickle/engine/LeapingChannels" "positions" "[I" (.ref ap) ∧ Fld Z h a1 "com/example/fickle/fickle/engine/LeapingChannels" "held" "[Z" (.ref ah) ∧ Fld Z h a1 "com/example/fickle/fickle/engine/LeapingChannels" "size" "I" (.int sz') ∧ own_A Z h am .int nn (own_upd fm sz.toNatClampNeg p2) ∧ own_A Z h ap .int nn (own_upd fp p2.toNatClampNeg sz) ∧ own_A Z h ah .boolean nn (own_upd fh p2.toNatClampNeg (nar .boolean 1))
theorem d2_0 : decode prog_25_method_5_code 0 = .ok (.aload_n 0, 1) := by decide +kernel
theorem d2_1 : decode prog_25_method_5_code 1 = .ok (.getfield 7, 3) := by decide +kernel
theorem d2_4 : decode prog_25_method_5_code 4 = .ok (.aload_n 0, 1) := by decide +kernel
theorem d2_5 : decode prog_25_method_5_code 5 = .ok (.getfield 30, 3) := by decide +kernel
theorem d2_8 : decode prog_25_method_5_code 8 = .ok (.iload_n 1, 1) := by decide +kernel
theorem d2_9 : decode prog_25_method_5_code 9 = .ok (.iastore, 1) := by decide +kernel
theorem d2_10 : decode prog_25_method_5_code 10 = .ok (.aload_n 0, 1) := by decide +kernel
theorem d2_11 : decode prog_25_method_5_code 11 = .ok (.getfield 13, 3) := by decide +kernel
theorem d2_14 : decode prog_25_method_5_code 14 = .ok (.iload_n 1, 1) := by decide +kernel
theorem d2_15 : decode prog_25_method_5_code 15 = .ok (.aload_n 0, 1) := by decide +kernel
theorem d2_16 : decode prog_25_method_5_code 16 = .ok (.dup, 1) := by decide +kernel
theorem d2_17 : decode prog_25_method_5_code 17 = .ok (.getfield 30, 3) := by decide +kernel
theorem d2_20 : decode prog_25_method_5_code 20 = .ok (.dup_x1, 1) := by decide +kernel
theorem d2_21 : decode prog_25_method_5_code 21 = .ok (.iconst 1, 1) := by decide +kernel
theorem d2_22 : decode prog_25_method_5_code 22 = .ok (.iadd, 1) := by decide +kernel
theorem d2_23 : decode prog_25_method_5_code 23 = .ok (.putfield 30, 3) := by decide +kernel
theorem d2_26 : decode prog_25_method_5_code 26 = .ok (.iastore, 1) := by decide +kernel
theorem d2_27 : decode prog_25_method_5_code 27 = .ok (.aload_n 0, 1) := by decide +kernel
theorem d2_28 : decode prog_25_method_5_code 28 = .ok (.getfield 16, 3) := by decide +kernel
theorem d2_31 : decode prog_25_method_5_code 31 = .ok (.iload_n 1, 1) := by decide +kernel
theorem d2_32 : decode prog_25_method_5_code 32 = .ok (.iconst 1, 1) := by decide +kernel
theorem d2_33 : decode prog_25_method_5_code 33 = .ok (.bastore, 1) := by decide +kernel
theorem d2_34 : decode prog_25_method_5_code 34 = .ok (.return_, 1) := by decide +kernel
theorem pn_2 : plainName "com/example/fickle/fickle/engine/LeapingChannels" = true := by first | (simp [plainName, overriddenIn]; done) | decide +kernel
theorem ef_2 (m : MethodId) (x0 : Addr) (x1 : Int32) : entryFrame m #[(.ref x0), (.int x1)] 2 = mkF m 0 #[.val (.ref x0), .val (.int x1)] [] := by first | (simp [entryFrame, mkF, argsToLocals, Value.category]; done) | rfl
set_option maxRecDepth 65536 in
set_option maxHeartbeats 40000000 in
theorem rm2 (l : Launch) (Z : State) (a0 : Array Value) (hw : ∀ d ∈ tables_1, d.before a0 Z = true) (ws : List Jvm.Cond) (p2 : Int32) (a1 am ap ah : Addr) (sz nn : Int32) (fm fp fh : Nat → Int32) (sz' : Int32) (h0 : Heap) (n0 : Nat) (Z0 : n0 ≤ h0.size) (Fm : Fld Z h0 a1 "com/example/fickle/fickle/engine/LeapingChannels" "members" "[I" (.ref am)) (Fp : Fld Z h0 a1 "com/example/fickle/fickle/engine/LeapingChannels" "positions" "[I" (.ref ap)) (Fh : Fld Z h0 a1 "com/example/fickle/fickle/engine/LeapingChannels" "held" "[Z" (.ref ah)) (Fs : Fld Z h0 a1 "com/example/fickle/fickle/engine/LeapingChannels" "size" "I" (.int sz)) (Vm : own_A Z h0 am .int nn fm) (Vp : own_A Z h0 ap .int nn fp) (Vh : own_A Z h0 ah .boolean nn fh) (E1 : Exa Z h0 a1 "com/example/fickle/fickle/engine/LeapingChannels") (g1 : n0 ≤ a1) (gm : n0 ≤ am) (gp : n0 ≤ ap) (gh : n0 ≤ ah) (ne1 : a1 ≠ am) (ne2 : a1 ≠ ap) (ne3 : a1 ≠ ah) (ne4 : am ≠ ap) (ne5 : am ≠ ah) (ne6 : ap ≠ ah) (s0 : ¬ sz < 0) (s1 : sz < nn) (c0 : ¬ p2 < 0) (c1 : p2 < nn) (es : sz + (1 : Int32) = sz') :
    MetFree l (⟨"com/example/fickle/fickle/engine/LeapingChannels", "add", "(I)V"⟩ : MethodName) (head1 (Jvm.Cond.code (⟨"com/example/fickle/fickle/engine/LeapingChannels", "add", "(I)V"⟩ : MethodName) prog_25_method_5_code 2 none :: ws) ({ frames := 0, cells := 0, slots := 0, locals := 0 } : Room)) (fun a U => a = #[(.ref a1), (.int p2)] ∧ Z.Warmed39 U.vm ∧ U.heap = h0) (fun _ _ _ _ _ => True) (fun _ U o U' => ∃ v L, o = .returned v ∧ Q2 Z p2 a1 am ap ah sz nn fm fp fh sz' h0 n0 v U'.heap L ∧ FrameEnd U o U' L ({ frames := 0, cells := 0, slots := 0, locals := 0 } : Room).cells ({ frames := 0, cells := 0, slots := 0, locals := 0 } : Room).slots) := by
  refine MetFree.of_bodySF (plainFor_of_name pn_2) hisR ?_
  intro p e s m args below meth c s₁ Bd hml0 hP hK
  obtain ⟨rfl, hZ, hh⟩ := hP
  have hx := Bd.exec
  have hby := Bd.bytes
  have hml : c.maxLocals = 2 := hml0
  have hown : s.vm.findClass "com/example/fickle/fickle/engine/LeapingChannels" = some m.cls := findClass_of_methodNamed Bd.named
  have hnm := (name_of_methodNamed Bd.named Bd.method).1
  have X0 : Stand p l e ({ frames := 0, cells := 0, slots := 0, locals := 0 } : Room) s m #[(.ref a1), (.int p2)] below meth c s₁ [] 0 0 := Stand.of_body Bd
  have e0 : s₁.heap = h0 := by rw [← hh, Bd.state]; rfl
  have N0 := Fr.nil n0
  have pre0 : own_Go p e below (s₁.setTop (entryFrame m #[(.ref a1), (.int p2)] 2)) (s₁.setTop (mkF m 0 #[.val (.ref a1), .val (.int p2)] [])) := fun t k => castTop (ef_2 m a1 p2) k
  have pre1 : own_Go p e below (s₁.setTop (entryFrame m #[(.ref a1), (.int p2)] 2)) (s₁.setTop (mkF m 1 #[.val (.ref a1), .val (.int p2)] [(.ref a1)])) := fun t k => pre0 t (by
      show Steps p.tables e below (s₁.setTop (mkF m 0 #[.val (.ref a1), .val (.int p2)] [])) _
      refine XS.aloadN X0.here hx rfl (hb hby d2_0) rfl rfl ?_
      exact k)
  obtain ⟨T2, X2, e2, st2⟩ := getF X0 hx hZ hown (host := "") (Or.inl (hw _ (List.mem_of_getElem? (i := 11) rfl))) Via.refl e0 Fm (g := (mkF m 1 #[.val (.ref a1), .val (.int p2)] [(.ref a1)])) rfl rfl (hb hby d2_1)
  have pre3 : own_Go p e below (s₁.setTop (entryFrame m #[(.ref a1), (.int p2)] 2)) (T2.setTop (mkF m 4 #[.val (.ref a1), .val (.int p2)] [(.ref am)])) := fun t k => pre1 t (st2 t k)
  have pre4 : own_Go p e below (s₁.setTop (entryFrame m #[(.ref a1), (.int p2)] 2)) (T2.setTop (mkF m 5 #[.val (.ref a1), .val (.int p2)] [(.ref a1), (.ref am)])) := fun t k => pre3 t (by
      show Steps p.tables e below (T2.setTop (mkF m 4 #[.val (.ref a1), .val (.int p2)] [(.ref am)])) _
      refine XS.aloadN X2.here hx rfl (hb hby d2_4) rfl rfl ?_
      exact k)
  obtain ⟨T5, X5, e5, st5⟩ := getF X2 hx hZ hown (host := "") (Or.inl (hw _ (List.mem_of_getElem? (i := 30) rfl))) Via.refl e2 Fs (g := (mkF m 5 #[.val (.ref a1), .val (.int p2)] [(.ref a1), (.ref am)])) rfl rfl (hb hby d2_5)
  have pre6 : own_Go p e below (s₁.setTop (entryFrame m #[(.ref a1), (.int p2)] 2)) (T5.setTop (mkF m 8 #[.val (.ref a1), .val (.int p2)] [(.int sz), (.ref am)])) := fun t k => pre4 t (st5 t k)
  have pre7 : own_Go p e below (s₁.setTop (entryFrame m #[(.ref a1), (.int p2)] 2)) (T5.setTop (mkF m 9 #[.val (.ref a1), .val (.int p2)] [(.int p2), (.int sz), (.ref am)])) := fun t k => pre6 t (by
      show Steps p.tables e below (T5.setTop (mkF m 8 #[.val (.ref a1), .val (.int p2)] [(.int sz), (.ref am)])) _
      refine XS.iloadN X5.here hx rfl (hb hby d2_8) rfl ?_
      exact k)
  obtain ⟨cl8, Ar8, hin8, -⟩ := own_A.at Vm (j := sz) s0 s1
  obtain ⟨T8, h8, X8, e8, W8, st8⟩ := stI X5 hx hZ e5 Ar8 (j := sz) hin8 (g := (mkF m 9 #[.val (.ref a1), .val (.int p2)] [(.int p2), (.int sz), (.ref am)])) rfl rfl (hb hby d2_9)
  have N8 := Fr.snoc X8 N0 gm
  have pre9 : own_Go p e below (s₁.setTop (entryFrame m #[(.ref a1), (.int p2)] 2)) (T8.setTop (mkF m 10 #[.val (.ref a1), .val (.int p2)] [])) := fun t k => pre7 t (st8 t k)
  have V_10 := own_A.set Vm W8 rfl
  have F_11 := Fm.other W8 (Or.inl ne1)
  have F_12 := Fp.other W8 (Or.inl ne1)
  have F_13 := Fh.other W8 (Or.inl ne1)
  have F_14 := Fs.other W8 (Or.inl ne1)
  have Ex_15 := E1.wr W8
  have V_16 := Vp.other W8 (Ne.symm ne4)
  have V_17 := Vh.other W8 (Ne.symm ne5)
  have K_18 := (Keep.refl h0 [a1, am, ap, ah]).wr W8 (Or.inl (List.mem_of_getElem? (i := 1) rfl))
  have pre19 : own_Go p e below (s₁.setTop (entryFrame m #[(.ref a1), (.int p2)] 2)) (T8.setTop (mkF m 11 #[.val (.ref a1), .val (.int p2)] [(.ref a1)])) := fun t k => pre9 t (by
      show Steps p.tables e below (T8.setTop (mkF m 10 #[.val (.ref a1), .val (.int p2)] [])) _
      refine XS.aloadN X8.here hx rfl (hb hby d2_10) rfl rfl ?_
      exact k)
  obtain ⟨T20, X20, e20, st20⟩ := getF X8 hx hZ hown (host := "") (Or.inl (hw _ (List.mem_of_getElem? (i := 13) rfl))) Via.refl e8 F_12 (g := (mkF m 11 #[.val (.ref a1), .val (.int p2)] [(.ref a1)])) rfl rfl (hb hby d2_11)
  have pre21 : own_Go p e below (s₁.setTop (entryFrame m #[(.ref a1), (.int p2)] 2)) (T20.setTop (mkF m 14 #[.val (.ref a1), .val (.int p2)] [(.ref ap)])) := fun t k => pre19 t (st20 t k)
  have pre22 : own_Go p e below (s₁.setTop (entryFrame m #[(.ref a1), (.int p2)] 2)) (T20.setTop (mkF m 17 #[.val (.ref a1), .val (.int p2)] [(.ref a1), (.ref a1), (.int p2), (.ref ap)])) := fun t k => pre21 t (by
      show Steps p.tables e below (T20.setTop (mkF m 14 #[.val (.ref a1), .val (.int p2)] [(.ref ap)])) _
      refine XS.iloadN X20.here hx rfl (hb hby d2_14) rfl ?_
      show Steps p.tables e below (T20.setTop (mkF m 15 #[.val (.ref a1), .val (.int p2)] [(.int p2), (.ref ap)])) _
      refine XS.aloadN X20.here hx rfl (hb hby d2_15) rfl rfl ?_
      show Steps p.tables e below (T20.setTop (mkF m 16 #[.val (.ref a1), .val (.int p2)] [(.ref a1), (.int p2), (.ref ap)])) _
      refine XS.dup X20.here hx rfl (hb hby d2_16) rfl rfl ?_
      exact k)
  obtain ⟨T23, X23, e23, st23⟩ := getF X20 hx hZ hown (host := "") (Or.inl (hw _ (List.mem_of_getElem? (i := 30) rfl))) Via.refl e20 F_14 (g := (mkF m 17 #[.val (.ref a1), .val (.int p2)] [(.ref a1), (.ref a1), (.int p2), (.ref ap)])) rfl rfl (hb hby d2_17)
  have pre24 : own_Go p e below (s₁.setTop (entryFrame m #[(.ref a1), (.int p2)] 2)) (T23.setTop (mkF m 20 #[.val (.ref a1), .val (.int p2)] [(.int sz), (.ref a1), (.int p2), (.ref ap)])) := fun t k => pre22 t (st23 t k)
  have pre25 : own_Go p e below (s₁.setTop (entryFrame m #[(.ref a1), (.int p2)] 2)) (T23.setTop (mkF m 23 #[.val (.ref a1), .val (.int p2)] [(.int (sz + (1 : Int32))), (.ref a1), (.int sz), (.int p2), (.ref ap)])) := fun t k => pre24 t (by
      show Steps p.tables e below (T23.setTop (mkF m 20 #[.val (.ref a1), .val (.int p2)] [(.int sz), (.ref a1), (.int p2), (.ref ap)])) _
      refine XT.dupX1 X23.here hx rfl (hb hby d2_20) rfl rfl rfl ?_
      show Steps p.tables e below (T23.setTop (mkF m 21 #[.val (.ref a1), .val (.int p2)] [(.int sz), (.ref a1), (.int sz), (.int p2), (.ref ap)])) _
      refine XS.iconst X23.here hx rfl (hb hby d2_21) ?_
      show Steps p.tables e below (T23.setTop (mkF m 22 #[.val (.ref a1), .val (.int p2)] [(.int (1 : Int32)), (.int sz), (.ref a1), (.int sz), (.int p2), (.ref ap)])) _
      refine XS.iadd X23.here hx rfl (hb hby d2_22) rfl ?_
      exact k)
  obtain ⟨T26, h26, X26, e26, W26, st26⟩ := putF X23 hx hZ hown (host := "") (Or.inl (hw _ (List.mem_of_getElem? (i := 30) rfl))) Via.refl e23 F_14 Ex_15 (Or.inl (hw _ (List.mem_of_getElem? (i := 31) rfl))) (hw _ (List.mem_of_getElem? (i := 2) rfl)) (ty := .int) (by decide) rfl rfl (g := (mkF m 23 #[.val (.ref a1), .val (.int p2)] [(.int (sz + (1 : Int32))), (.ref a1), (.int sz), (.int p2), (.ref ap)])) rfl rfl (hb hby d2_23)
  have N26 := Fr.snoc X26 N8 g1
  have pre27 : own_Go p e below (s₁.setTop (entryFrame m #[(.ref a1), (.int p2)] 2)) (T26.setTop (mkF m 26 #[.val (.ref a1), .val (.int p2)] [(.int sz), (.int p2), (.ref ap)])) := fun t k => pre25 t (st26 t k)
  have F_28 := F_11.other W26 (Or.inr (slot_ne (Or.inr (hw _ (List.mem_of_getElem? (i := 12) rfl))) (Or.inl (hw _ (List.mem_of_getElem? (i := 31) rfl))) (by decide) (t := (.array .int)) (by decide) (t' := .int) (by decide)))
  have F_29 := F_12.other W26 (Or.inr (slot_ne (Or.inr (hw _ (List.mem_of_getElem? (i := 14) rfl))) (Or.inl (hw _ (List.mem_of_getElem? (i := 31) rfl))) (by decide) (t := (.array .int)) (by decide) (t' := .int) (by decide)))
  have F_30 := F_13.other W26 (Or.inr (slot_ne (Or.inr (hw _ (List.mem_of_getElem? (i := 17) rfl))) (Or.inl (hw _ (List.mem_of_getElem? (i := 31) rfl))) (by decide) (t := (.array .boolean)) (by decide) (t' := .int) (by decide)))
  have F_31 := F_14.same W26
  have Ex_32 := Ex_15.wr W26
  have V_33 := V_10.other W26 (Ne.symm ne1)
  have V_34 := V_16.other W26 (Ne.symm ne2)
  have V_35 := V_17.other W26 (Ne.symm ne3)
  have K_36 := K_18.wr W26 (Or.inl (List.mem_of_getElem? (i := 0) rfl))
  obtain ⟨cl37, Ar37, hin37, -⟩ := own_A.at V_34 (j := p2) c0 c1
  obtain ⟨T37, h37, X37, e37, W37, st37⟩ := stI X26 hx hZ e26 Ar37 (j := p2) hin37 (g := (mkF m 26 #[.val (.ref a1), .val (.int p2)] [(.int sz), (.int p2), (.ref ap)])) rfl rfl (hb hby d2_26)
  have N37 := Fr.snoc X37 N26 gp
  have pre38 : own_Go p e below (s₁.setTop (entryFrame m #[(.ref a1), (.int p2)] 2)) (T37.setTop (mkF m 27 #[.val (.ref a1), .val (.int p2)] [])) := fun t k => pre27 t (st37 t k)
  have V_39 := own_A.set V_34 W37 rfl
  have F_40 := F_28.other W37 (Or.inl ne2)
  have F_41 := F_29.other W37 (Or.inl ne2)
  have F_42 := F_30.other W37 (Or.inl ne2)
  have F_43 := F_31.other W37 (Or.inl ne2)
  have Ex_44 := Ex_32.wr W37
  have V_45 := V_33.other W37 ne4
  have V_46 := V_35.other W37 (Ne.symm ne6)
  have K_47 := K_36.wr W37 (Or.inl (List.mem_of_getElem? (i := 2) rfl))
  have pre48 : own_Go p e below (s₁.setTop (entryFrame m #[(.ref a1), (.int p2)] 2)) (T37.setTop (mkF m 28 #[.val (.ref a1), .val (.int p2)] [(.ref a1)])) := fun t k => pre38 t (by
      show Steps p.tables e below (T37.setTop (mkF m 27 #[.val (.ref a1), .val (.int p2)] [])) _
      refine XS.aloadN X37.here hx rfl (hb hby d2_27) rfl rfl ?_
      exact k)
  obtain ⟨T49, X49, e49, st49⟩ := getF X37 hx hZ hown (host := "") (Or.inl (hw _ (List.mem_of_getElem? (i := 16) rfl))) Via.refl e37 F_42 (g := (mkF m 28 #[.val (.ref a1), .val (.int p2)] [(.ref a1)])) rfl rfl (hb hby d2_28)
  have pre50 : own_Go p e below (s₁.setTop (entryFrame m #[(.ref a1), (.int p2)] 2)) (T49.setTop (mkF m 31 #[.val (.ref a1), .val (.int p2)] [(.ref ah)])) := fun t k => pre48 t (st49 t k)
  have pre51 : own_Go p e below (s₁.setTop (entryFrame m #[(.ref a1), (.int p2)] 2)) (T49.setTop (mkF m 33 #[.val (.ref a1), .val (.int p2)] [(.int (1 : Int32)), (.int p2), (.ref ah)])) := fun t k => pre50 t (by
      show Steps p.tables e below (T49.setTop (mkF m 31 #[.val (.ref a1), .val (.int p2)] [(.ref ah)])) _
      refine XS.iloadN X49.here hx rfl (hb hby d2_31) rfl ?_
      show Steps p.tables e below (T49.setTop (mkF m 32 #[.val (.ref a1), .val (.int p2)] [(.int p2), (.ref ah)])) _
      refine XS.iconst X49.here hx rfl (hb hby d2_32) ?_
      exact k)
  obtain ⟨cl52, Ar52, hin52, -⟩ := own_A.at V_46 (j := p2) c0 c1
  obtain ⟨T52, h52, X52, e52, W52, st52⟩ := stZ X49 hx hZ e49 Ar52 (j := p2) hin52 (g := (mkF m 33 #[.val (.ref a1), .val (.int p2)] [(.int (1 : Int32)), (.int p2), (.ref ah)])) rfl rfl (hb hby d2_33)
  have N52 := Fr.snoc X52 N37 gh
  have pre53 : own_Go p e below (s₁.setTop (entryFrame m #[(.ref a1), (.int p2)] 2)) (T52.setTop (mkF m 34 #[.val (.ref a1), .val (.int p2)] [])) := fun t k => pre51 t (st52 t k)
  have V_54 := own_A.set V_46 W52 (fits_nar_bool _)
  have F_55 := F_40.other W52 (Or.inl ne3)
  have F_56 := F_41.other W52 (Or.inl ne3)
  have F_57 := F_42.other W52 (Or.inl ne3)
  have F_58 := F_43.other W52 (Or.inl ne3)
  have Ex_59 := Ex_44.wr W52
  have V_60 := V_45.other W52 ne5
  have V_61 := V_39.other W52 ne6
  have K_62 := K_47.wr W52 (Or.inl (List.mem_of_getElem? (i := 3) rfl))
  have Fsz := F_58
  rw [es] at Fsz
  obtain ⟨fs, hr, hrun, hended, hW, hsame⟩ := X52.leave (v := none) (fun _ => rfl)
  refine ⟨_, _, pre53 _ ?_, hrun, hended, _, _, rfl, ?_, ⟨_, rfl⟩, hW, hsame.mono (by decide) (by decide)⟩
  · show Steps p.tables e below (T52.setTop (mkF m 34 #[.val (.ref a1), .val (.int p2)] [])) _
    exact X52.returnOut hx Bd.returns (hb hby d2_34) hr
  · show Q2 Z p2 a1 am ap ah sz nn fm fp fh sz' h0 n0 _ T52.heap _
    rw [e52]
    exact ⟨rfl, N52, K_62, F_55, F_56, F_57, Fsz, V_60, V_61, V_54⟩
def Q3 (Z : State) (sz : Int32) (h0 : Heap) (n0 : Nat) (v : Option Value) (h : Heap) (L : List Loc) : Prop := v = some (.int sz) ∧ Fr n0 L ∧ h = h0
theorem d3_0 : decode prog_25_method_2_code 0 = .ok (.aload_n 0, 1) := by decide +kernel
theorem d3_1 : decode prog_25_method_2_code 1 = .ok (.getfield 30, 3) := by decide +kernel
theorem d3_4 : decode prog_25_method_2_code 4 = .ok (.ireturn, 1) := by decide +kernel
theorem pn_3 : plainName "com/example/fickle/fickle/engine/LeapingChannels" = true := by first | (simp [plainName, overriddenIn]; done) | decide +kernel
theorem ef_3 (m : MethodId) (x0 : Addr) : entryFrame m #[(.ref x0)] 1 = mkF m 0 #[.val (.ref x0)] [] := by first | (simp [entryFrame, mkF, argsToLocals, Value.category]; done) | rfl
set_option maxRecDepth 65536 in
set_option maxHeartbeats 40000000 in
theorem rm3 (l : Launch) (Z : State) (a0 : Array Value) (hw : ∀ d ∈ tables_1, d.before a0 Z = true) (ws : List Jvm.Cond) (a1 : Addr) (sz : Int32) (h0 : Heap) (n0 : Nat) (Z0 : n0 ≤ h0.size) (Fs : Fld Z h0 a1 "com/example/fickle/fickle/engine/LeapingChannels" "size" "I" (.int sz)) :
    MetFree l (⟨"com/example/fickle/fickle/engine/LeapingChannels", "size", "()I"⟩ : MethodName) (head1 (Jvm.Cond.code (⟨"com/example/fickle/fickle/engine/LeapingChannels", "size", "()I"⟩ : MethodName) prog_25_method_2_code 1 (some .int) :: ws) ({ frames := 0, cells := 0, slots := 0, locals := 0 } : Room)) (fun a U => a = #[(.ref a1)] ∧ Z.Warmed39 U.vm ∧ U.heap = h0) (fun _ _ _ _ _ => True) (fun _ U o U' => ∃ v L, o = .returned v ∧ Q3 Z sz h0 n0 v U'.heap L ∧ FrameEnd U o U' L ({ frames := 0, cells := 0, slots := 0, locals := 0 } : Room).cells ({ frames := 0, cells := 0, slots := 0, locals := 0 } : Room).slots) := by
  refine MetFree.of_bodySF (plainFor_of_name pn_3) hisR ?_
  intro p e s m args below meth c s₁ Bd hml0 hP hK
  obtain ⟨rfl, hZ, hh⟩ := hP
  have hx := Bd.exec
  have hby := Bd.bytes
  have hml : c.maxLocals = 1 := hml0
  have hown : s.vm.findClass "com/example/fickle/fickle/engine/LeapingChannels" = some m.cls := findClass_of_methodNamed Bd.named
  have hnm := (name_of_methodNamed Bd.named Bd.method).1
  have X0 : Stand p l e ({ frames := 0, cells := 0, slots := 0, locals := 0 } : Room) s m #[(.ref a1)] below meth c s₁ [] 0 0 := Stand.of_body Bd
  have e0 : s₁.heap = h0 := by rw [← hh, Bd.state]; rfl
  have N0 := Fr.nil n0
  have pre0 : own_Go p e below (s₁.setTop (entryFrame m #[(.ref a1)] 1)) (s₁.setTop (mkF m 0 #[.val (.ref a1)] [])) := fun t k => castTop (ef_3 m a1) k
  have pre1 : own_Go p e below (s₁.setTop (entryFrame m #[(.ref a1)] 1)) (s₁.setTop (mkF m 1 #[.val (.ref a1)] [(.ref a1)])) := fun t k => pre0 t (by
      show Steps p.tables e below (s₁.setTop (mkF m 0 #[.val (.ref a1)] [])) _
      refine XS.aloadN X0.here hx rfl (hb hby d3_0) rfl rfl ?_
      exact k)
  obtain ⟨T2, X2, e2, st2⟩ := getF X0 hx hZ hown (host := "") (Or.inl (hw _ (List.mem_of_getElem? (i := 30) rfl))) Via.refl e0 Fs (g := (mkF m 1 #[.val (.ref a1)] [(.ref a1)])) rfl rfl (hb hby d3_1)
  have pre3 : own_Go p e below (s₁.setTop (entryFrame m #[(.ref a1)] 1)) (T2.setTop (mkF m 4 #[.val (.ref a1)] [(.int sz)])) := fun t k => pre1 t (st2 t k)
  obtain ⟨fs, hr, hrun, hended, hW, hsame⟩ := X2.leave (v := some (.int sz)) (fun h => by rw [Bd.returns] at h; cases h)
  refine ⟨_, _, pre3 _ ?_, hrun, hended, _, _, rfl, ?_, ⟨_, rfl⟩, hW, hsame.mono (by decide) (by decide)⟩
  · show Steps p.tables e below (T2.setTop (mkF m 4 #[.val (.ref a1)] [(.int sz)])) _
    exact retI X2 hx Bd.returns (hb hby d3_4) hr
  · show Q3 Z sz h0 n0 _ T2.heap _
    rw [e2]
    exact ⟨rfl, N0, rfl⟩
def Q4 (Z : State) (r : Int32) (h0 : Heap) (n0 : Nat) (v : Option Value) (h : Heap) (L : List Loc) : Prop := v = some (.int r) ∧ Fr n0 L ∧ h = h0
theorem d4_0 : decode prog_25_method_3_code 0 = .ok (.aload_n 0, 1) := by decide +kernel
theorem d4_1 : decode prog_25_method_3_code 1 = .ok (.getfield 7, 3) := by decide +kernel
theorem d4_4 : decode prog_25_method_3_code 4 = .ok (.iload_n 1, 1) := by decide +kernel
theorem d4_5 : decode prog_25_method_3_code 5 = .ok (.iaload, 1) := by decide +kernel
theorem d4_6 : decode prog_25_method_3_code 6 = .ok (.ireturn, 1) := by decide +kernel
theorem pn_4 : plainName "com/example/fickle/fickle/engine/LeapingChannels" = true := by first | (simp [plainName, overriddenIn]; done) | decide +kernel
theorem ef_4 (m : MethodId) (x0 : Addr) (x1 : Int32) : entryFrame m #[(.ref x0), (.int x1)] 2 = mkF m 0 #[.val (.ref x0), .val (.int x1)] [] := by first | (simp [entryFrame, mkF, argsToLocals, Value.category]; done) | rfl
set_option maxRecDepth 65536 in
set_option maxHeartbeats 40000000 in
theorem rm4 (l : Launch) (Z : State) (a0 : Array Value) (hw : ∀ d ∈ tables_1, d.before a0 Z = true) (ws : List Jvm.Cond) (a1 am : Addr) (p2 nn r : Int32) (fm : Nat → Int32) (h0 : Heap) (n0 : Nat) (Z0 : n0 ≤ h0.size) (Fm : Fld Z h0 a1 "com/example/fickle/fickle/engine/LeapingChannels" "members" "[I" (.ref am)) (Vm : own_A Z h0 am .int nn fm) (c0 : ¬ p2 < 0) (c1 : p2 < nn) (hv : fm p2.toNatClampNeg = r) :
    MetFree l (⟨"com/example/fickle/fickle/engine/LeapingChannels", "get", "(I)I"⟩ : MethodName) (head1 (Jvm.Cond.code (⟨"com/example/fickle/fickle/engine/LeapingChannels", "get", "(I)I"⟩ : MethodName) prog_25_method_3_code 2 (some .int) :: ws) ({ frames := 0, cells := 0, slots := 0, locals := 0 } : Room)) (fun a U => a = #[(.ref a1), (.int p2)] ∧ Z.Warmed39 U.vm ∧ U.heap = h0) (fun _ _ _ _ _ => True) (fun _ U o U' => ∃ v L, o = .returned v ∧ Q4 Z r h0 n0 v U'.heap L ∧ FrameEnd U o U' L ({ frames := 0, cells := 0, slots := 0, locals := 0 } : Room).cells ({ frames := 0, cells := 0, slots := 0, locals := 0 } : Room).slots) := by
  refine MetFree.of_bodySF (plainFor_of_name pn_4) hisR ?_
  intro p e s m args below meth c s₁ Bd hml0 hP hK
  obtain ⟨rfl, hZ, hh⟩ := hP
  have hx := Bd.exec
  have hby := Bd.bytes
  have hml : c.maxLocals = 2 := hml0
  have hown : s.vm.findClass "com/example/fickle/fickle/engine/LeapingChannels" = some m.cls := findClass_of_methodNamed Bd.named
  have hnm := (name_of_methodNamed Bd.named Bd.method).1
  have X0 : Stand p l e ({ frames := 0, cells := 0, slots := 0, locals := 0 } : Room) s m #[(.ref a1), (.int p2)] below meth c s₁ [] 0 0 := Stand.of_body Bd
  have e0 : s₁.heap = h0 := by rw [← hh, Bd.state]; rfl
  have N0 := Fr.nil n0
  have pre0 : own_Go p e below (s₁.setTop (entryFrame m #[(.ref a1), (.int p2)] 2)) (s₁.setTop (mkF m 0 #[.val (.ref a1), .val (.int p2)] [])) := fun t k => castTop (ef_4 m a1 p2) k
  have pre1 : own_Go p e below (s₁.setTop (entryFrame m #[(.ref a1), (.int p2)] 2)) (s₁.setTop (mkF m 1 #[.val (.ref a1), .val (.int p2)] [(.ref a1)])) := fun t k => pre0 t (by
      show Steps p.tables e below (s₁.setTop (mkF m 0 #[.val (.ref a1), .val (.int p2)] [])) _
      refine XS.aloadN X0.here hx rfl (hb hby d4_0) rfl rfl ?_
      exact k)
  obtain ⟨T2, X2, e2, st2⟩ := getF X0 hx hZ hown (host := "") (Or.inl (hw _ (List.mem_of_getElem? (i := 11) rfl))) Via.refl e0 Fm (g := (mkF m 1 #[.val (.ref a1), .val (.int p2)] [(.ref a1)])) rfl rfl (hb hby d4_1)
  have pre3 : own_Go p e below (s₁.setTop (entryFrame m #[(.ref a1), (.int p2)] 2)) (T2.setTop (mkF m 4 #[.val (.ref a1), .val (.int p2)] [(.ref am)])) := fun t k => pre1 t (st2 t k)
  have pre4 : own_Go p e below (s₁.setTop (entryFrame m #[(.ref a1), (.int p2)] 2)) (T2.setTop (mkF m 5 #[.val (.ref a1), .val (.int p2)] [(.int p2), (.ref am)])) := fun t k => pre3 t (by
      show Steps p.tables e below (T2.setTop (mkF m 4 #[.val (.ref a1), .val (.int p2)] [(.ref am)])) _
      refine XS.iloadN X2.here hx rfl (hb hby d4_4) rfl ?_
      exact k)
  obtain ⟨cl5, Ar5, hin5, hv5⟩ := own_A.at Vm (j := p2) c0 c1
  have pre6 : own_Go p e below (s₁.setTop (entryFrame m #[(.ref a1), (.int p2)] 2)) (T2.setTop (mkF m 6 #[.val (.ref a1), .val (.int p2)] [(.int r)])) := fun t k => pre4 t (X2.iaload hx (j := p2) (v := .int r) (by rw [show T2.heap = h0 from e2]; exact Ar5.1) (State.isArrayOf_alike hZ.alike Ar5.2.1) Ar5.2.2 hin5 (hv5.trans (congrArg (fun z => some (Value.int z)) hv)) (g := (mkF m 5 #[.val (.ref a1), .val (.int p2)] [(.int p2), (.ref am)])) rfl rfl (hb hby d4_5) t k)
  obtain ⟨fs, hr, hrun, hended, hW, hsame⟩ := X2.leave (v := some (.int r)) (fun h => by rw [Bd.returns] at h; cases h)
  refine ⟨_, _, pre6 _ ?_, hrun, hended, _, _, rfl, ?_, ⟨_, rfl⟩, hW, hsame.mono (by decide) (by decide)⟩
  · show Steps p.tables e below (T2.setTop (mkF m 6 #[.val (.ref a1), .val (.int p2)] [(.int r)])) _
    exact retI X2 hx Bd.returns (hb hby d4_6) hr
  · show Q4 Z r h0 n0 _ T2.heap _
    rw [e2]
    exact ⟨rfl, N0, rfl⟩
def Q5 (Z : State) (r : Int32) (h0 : Heap) (n0 : Nat) (v : Option Value) (h : Heap) (L : List Loc) : Prop := v = some (.int r) ∧ Fr n0 L ∧ h = h0
theorem d5_0 : decode prog_25_method_4_code 0 = .ok (.aload_n 0, 1) := by decide +kernel
theorem d5_1 : decode prog_25_method_4_code 1 = .ok (.getfield 16, 3) := by decide +kernel
theorem d5_4 : decode prog_25_method_4_code 4 = .ok (.iload_n 1, 1) := by decide +kernel
theorem d5_5 : decode prog_25_method_4_code 5 = .ok (.baload, 1) := by decide +kernel
theorem d5_6 : decode prog_25_method_4_code 6 = .ok (.ireturn, 1) := by decide +kernel
theorem pn_5 : plainName "com/example/fickle/fickle/engine/LeapingChannels" = true := by first | (simp [plainName, overriddenIn]; done) | decide +kernel
theorem ef_5 (m : MethodId) (x0 : Addr) (x1 : Int32) : entryFrame m #[(.ref x0), (.int x1)] 2 = mkF m 0 #[.val (.ref x0), .val (.int x1)] [] := by first | (simp [entryFrame, mkF, argsToLocals, Value.category]; done) | rfl
set_option maxRecDepth 65536 in
set_option maxHeartbeats 40000000 in
theorem rm5 (l : Launch) (Z : State) (a0 : Array Value) (hw : ∀ d ∈ tables_1, d.before a0 Z = true) (ws : List Jvm.Cond) (a1 ah : Addr) (p2 nn r : Int32) (fh : Nat → Int32) (h0 : Heap) (n0 : Nat) (Z0 : n0 ≤ h0.size) (Fh : Fld Z h0 a1 "com/example/fickle/fickle/engine/LeapingChannels" "held" "[Z" (.ref ah)) (Vh : own_A Z h0 ah .boolean nn fh) (c0 : ¬ p2 < 0) (c1 : p2 < nn) (hv : fh p2.toNatClampNeg = r) (hr : nar .boolean r = r) :
    MetFree l (⟨"com/example/fickle/fickle/engine/LeapingChannels", "contains", "(I)Z"⟩ : MethodName) (head1 (Jvm.Cond.code (⟨"com/example/fickle/fickle/engine/LeapingChannels", "contains", "(I)Z"⟩ : MethodName) prog_25_method_4_code 2 (some .boolean) :: ws) ({ frames := 0, cells := 0, slots := 0, locals := 0 } : Room)) (fun a U => a = #[(.ref a1), (.int p2)] ∧ Z.Warmed39 U.vm ∧ U.heap = h0) (fun _ _ _ _ _ => True) (fun _ U o U' => ∃ v L, o = .returned v ∧ Q5 Z r h0 n0 v U'.heap L ∧ FrameEnd U o U' L ({ frames := 0, cells := 0, slots := 0, locals := 0 } : Room).cells ({ frames := 0, cells := 0, slots := 0, locals := 0 } : Room).slots) := by
  refine MetFree.of_bodySF (plainFor_of_name pn_5) hisR ?_
  intro p e s m args below meth c s₁ Bd hml0 hP hK
  obtain ⟨rfl, hZ, hh⟩ := hP
  have hx := Bd.exec
  have hby := Bd.bytes
  have hml : c.maxLocals = 2 := hml0
  have hown : s.vm.findClass "com/example/fickle/fickle/engine/LeapingChannels" = some m.cls := findClass_of_methodNamed Bd.named
  have hnm := (name_of_methodNamed Bd.named Bd.method).1
  have X0 : Stand p l e ({ frames := 0, cells := 0, slots := 0, locals := 0 } : Room) s m #[(.ref a1), (.int p2)] below meth c s₁ [] 0 0 := Stand.of_body Bd
  have e0 : s₁.heap = h0 := by rw [← hh, Bd.state]; rfl
  have N0 := Fr.nil n0
  have pre0 : own_Go p e below (s₁.setTop (entryFrame m #[(.ref a1), (.int p2)] 2)) (s₁.setTop (mkF m 0 #[.val (.ref a1), .val (.int p2)] [])) := fun t k => castTop (ef_5 m a1 p2) k
  have pre1 : own_Go p e below (s₁.setTop (entryFrame m #[(.ref a1), (.int p2)] 2)) (s₁.setTop (mkF m 1 #[.val (.ref a1), .val (.int p2)] [(.ref a1)])) := fun t k => pre0 t (by
      show Steps p.tables e below (s₁.setTop (mkF m 0 #[.val (.ref a1), .val (.int p2)] [])) _
      refine XS.aloadN X0.here hx rfl (hb hby d5_0) rfl rfl ?_
      exact k)
  obtain ⟨T2, X2, e2, st2⟩ := getF X0 hx hZ hown (host := "") (Or.inl (hw _ (List.mem_of_getElem? (i := 16) rfl))) Via.refl e0 Fh (g := (mkF m 1 #[.val (.ref a1), .val (.int p2)] [(.ref a1)])) rfl rfl (hb hby d5_1)
  have pre3 : own_Go p e below (s₁.setTop (entryFrame m #[(.ref a1), (.int p2)] 2)) (T2.setTop (mkF m 4 #[.val (.ref a1), .val (.int p2)] [(.ref ah)])) := fun t k => pre1 t (st2 t k)
  have pre4 : own_Go p e below (s₁.setTop (entryFrame m #[(.ref a1), (.int p2)] 2)) (T2.setTop (mkF m 5 #[.val (.ref a1), .val (.int p2)] [(.int p2), (.ref ah)])) := fun t k => pre3 t (by
      show Steps p.tables e below (T2.setTop (mkF m 4 #[.val (.ref a1), .val (.int p2)] [(.ref ah)])) _
      refine XS.iloadN X2.here hx rfl (hb hby d5_4) rfl ?_
      exact k)
  obtain ⟨cl5, Ar5, hin5, hv5⟩ := own_A.at Vh (j := p2) c0 c1
  have pre6 : own_Go p e below (s₁.setTop (entryFrame m #[(.ref a1), (.int p2)] 2)) (T2.setTop (mkF m 6 #[.val (.ref a1), .val (.int p2)] [(.int r)])) := fun t k => pre4 t (X2.baloadBooleans hx (j := p2) (v := .int r) (by rw [show T2.heap = h0 from e2]; exact Ar5.1) (State.isArrayOf_alike hZ.alike Ar5.2.1) Ar5.2.2 hin5 (hv5.trans (congrArg (fun z => some (Value.int z)) hv)) (g := (mkF m 5 #[.val (.ref a1), .val (.int p2)] [(.int p2), (.ref ah)])) rfl rfl (hb hby d5_5) t k)
  have hnr := hr
  obtain ⟨fs, hr, hrun, hended, hW, hsame⟩ := X2.leave (v := some (.int (nar .boolean r))) (fun h => by rw [Bd.returns] at h; cases h)
  refine ⟨_, _, pre6 _ ?_, hrun, hended, _, _, rfl, ?_, ⟨_, rfl⟩, hW, hsame.mono (by decide) (by decide)⟩
  · show Steps p.tables e below (T2.setTop (mkF m 6 #[.val (.ref a1), .val (.int p2)] [(.int r)])) _
    exact retN X2 hx (t := .boolean) Bd.returns (by simp) (hb hby d5_6) hr
  · show Q5 Z r h0 n0 _ T2.heap _
    rw [e2]
    exact ⟨congrArg (fun z => some (Value.int z)) hnr, N0, rfl⟩
def Q6 (Z : State) (a1 am ap ah : Addr) (sz nn : Int32) (fm fp fh : Nat → Int32) (sz' la po : Int32) (h0 : Heap) (n0 : Nat) (v : Option Value) (h : Heap) (L : List Loc) : Prop := v = none ∧ Fr n0 L ∧ Keep h0 h [a1, am, ap, ah] ∧ Fld Z h a1 "com/example/fickle/fickle/engine/LeapingChannels" "members" "[I" (.ref am) ∧ Fld Z h a1 "com/example/fickle/fickle/engine/LeapingChannels" "positions" "[I" (.ref ap) ∧ Fld Z h a1 "com/example/fickle/fickle/engine/LeapingChannels" "held" "[Z" (.ref ah) ∧ Fld Z h a1 "com/example/fickle/fickle/engine/LeapingChannels" "size" "I" (.int sz') ∧ own_A Z h am .int nn (own_upd fm po.toNatClampNeg la)
theorem d6_0 : decode prog_25_method_6_code 0 = .ok (.aload_n 0, 1) := by decide +kernel
theorem d6_1 : decode prog_25_method_6_code 1 = .ok (.getfield 7, 3) := by decide +kernel
theorem d6_4 : decode prog_25_method_6_code 4 = .ok (.aload_n 0, 1) := by decide +kernel
theorem d6_5 : decode prog_25_method_6_code 5 = .ok (.dup, 1) := by decide +kernel
theorem d6_6 : decode prog_25_method_6_code 6 = .ok (.getfield 30, 3) := by decide +kernel
theorem d6_9 : decode prog_25_method_6_code 9 = .ok (.iconst 1, 1) := by decide +kernel
theorem d6_10 : decode prog_25_method_6_code 10 = .ok (.isub, 1) := by decide +kernel
theorem d6_11 : decode prog_25_method_6_code 11 = .ok (.dup_x1, 1) := by decide +kernel
theorem d6_12 : decode prog_25_method_6_code 12 = .ok (.putfield 30, 3) := by decide +kernel
theorem d6_15 : decode prog_25_method_6_code 15 = .ok (.iaload, 1) := by decide +kernel
theorem d6_16 : decode prog_25_method_6_code 16 = .ok (.istore_n 2, 1) := by decide +kernel
theorem d6_17 : decode prog_25_method_6_code 17 = .ok (.aload_n 0, 1) := by decide +kernel
theorem d6_18 : decode prog_25_method_6_code 18 = .ok (.getfield 7, 3) := by decide +kernel
theorem d6_21 : decode prog_25_method_6_code 21 = .ok (.aload_n 0, 1) := by decide +kernel
theorem d6_22 : decode prog_25_method_6_code 22 = .ok (.getfield 13, 3) := by decide +kernel
theorem d6_25 : decode prog_25_method_6_code 25 = .ok (.iload_n 1, 1) := by decide +kernel
theorem d6_26 : decode prog_25_method_6_code 26 = .ok (.iaload, 1) := by decide +kernel
theorem d6_27 : decode prog_25_method_6_code 27 = .ok (.iload_n 2, 1) := by decide +kernel
theorem d6_28 : decode prog_25_method_6_code 28 = .ok (.iastore, 1) := by decide +kernel
theorem d6_29 : decode prog_25_method_6_code 29 = .ok (.aload_n 0, 1) := by decide +kernel
theorem d6_30 : decode prog_25_method_6_code 30 = .ok (.getfield 13, 3) := by decide +kernel
theorem d6_33 : decode prog_25_method_6_code 33 = .ok (.iload_n 2, 1) := by decide +kernel
theorem d6_34 : decode prog_25_method_6_code 34 = .ok (.aload_n 0, 1) := by decide +kernel
theorem d6_35 : decode prog_25_method_6_code 35 = .ok (.getfield 13, 3) := by decide +kernel
theorem d6_38 : decode prog_25_method_6_code 38 = .ok (.iload_n 1, 1) := by decide +kernel
theorem d6_39 : decode prog_25_method_6_code 39 = .ok (.iaload, 1) := by decide +kernel
theorem d6_40 : decode prog_25_method_6_code 40 = .ok (.iastore, 1) := by decide +kernel
theorem d6_41 : decode prog_25_method_6_code 41 = .ok (.aload_n 0, 1) := by decide +kernel
theorem d6_42 : decode prog_25_method_6_code 42 = .ok (.getfield 16, 3) := by decide +kernel
theorem d6_45 : decode prog_25_method_6_code 45 = .ok (.iload_n 1, 1) := by decide +kernel
theorem d6_46 : decode prog_25_method_6_code 46 = .ok (.iconst 0, 1) := by decide +kernel
theorem d6_47 : decode prog_25_method_6_code 47 = .ok (.bastore, 1) := by decide +kernel
theorem d6_48 : decode prog_25_method_6_code 48 = .ok (.return_, 1) := by decide +kernel
theorem pn_6 : plainName "com/example/fickle/fickle/engine/LeapingChannels" = true := by first | (simp [plainName, overriddenIn]; done) | decide +kernel
theorem ef_6 (m : MethodId) (x0 : Addr) (x1 : Int32) : entryFrame m #[(.ref x0), (.int x1)] 3 = mkF m 0 #[.val (.ref x0), .val (.int x1), .unset] [] := by first | (simp [entryFrame, mkF, argsToLocals, Value.category]; done) | rfl
set_option maxRecDepth 65536 in
set_option maxHeartbeats 40000000 in
theorem rm6 (l : Launch) (Z : State) (a0 : Array Value) (hw : ∀ d ∈ tables_1, d.before a0 Z = true) (ws : List Jvm.Cond) (p2 : Int32) (a1 am ap ah : Addr) (sz nn : Int32) (fm fp fh : Nat → Int32) (sz' la po : Int32) (h0 : Heap) (n0 : Nat) (Z0 : n0 ≤ h0.size) (Fm : Fld Z h0 a1 "com/example/fickle/fickle/engine/LeapingChannels" "members" "[I" (.ref am)) (Fp : Fld Z h0 a1 "com/example/fickle/fickle/engine/LeapingChannels" "positions" "[I" (.ref ap)) (Fh : Fld Z h0 a1 "com/example/fickle/fickle/engine/LeapingChannels" "held" "[Z" (.ref ah)) (Fs : Fld Z h0 a1 "com/example/fickle/fickle/engine/LeapingChannels" "size" "I" (.int sz)) (Vm : own_A Z h0 am .int nn fm) (Vp : own_A Z h0 ap .int nn fp) (Vh : own_A Z h0 ah .boolean nn fh) (E1 : Exa Z h0 a1 "com/example/fickle/fickle/engine/LeapingChannels") (g1 : n0 ≤ a1) (gm : n0 ≤ am) (gp : n0 ≤ ap) (gh : n0 ≤ ah) (ne1 : a1 ≠ am) (ne2 : a1 ≠ ap) (ne3 : a1 ≠ ah) (ne4 : am ≠ ap) (ne5 : am ≠ ah) (ne6 : ap ≠ ah) (es : sz - (1 : Int32) = sz') (s0 : ¬ sz' < 0) (s1 : sz' < nn) (c0 : ¬ p2 < 0) (c1 : p2 < nn) (hl : fm sz'.toNatClampNeg = la) (l0 : ¬ la < 0) (l1 : la < nn) (hp : fp p2.toNatClampNeg = po) (q0 : ¬ po < 0) (q1 : po < nn) :
    MetFree l (⟨"com/example/fickle/fickle/engine/LeapingChannels", "remove", "(I)V"⟩ : MethodName) (head1 (Jvm.Cond.code (⟨"com/example/fickle/fickle/engine/LeapingChannels", "remove", "(I)V"⟩ : MethodName) prog_25_method_6_code 3 none :: ws) ({ frames := 0, cells := 0, slots := 0, locals := 0 } : Room)) (fun a U => a = #[(.ref a1), (.int p2)] ∧ Z.Warmed39 U.vm ∧ U.heap = h0) (fun _ _ _ _ _ => True) (fun _ U o U' => ∃ v L, o = .returned v ∧ Q6 Z a1 am ap ah sz nn fm fp fh sz' la po h0 n0 v U'.heap L ∧ FrameEnd U o U' L ({ frames := 0, cells := 0, slots := 0, locals := 0 } : Room).cells ({ frames := 0, cells := 0, slots := 0, locals := 0 } : Room).slots) := by
  refine MetFree.of_bodySF (plainFor_of_name pn_6) hisR ?_
  intro p e s m args below meth c s₁ Bd hml0 hP hK
  obtain ⟨rfl, hZ, hh⟩ := hP
  have hx := Bd.exec
  have hby := Bd.bytes
  have hml : c.maxLocals = 3 := hml0
  have hown : s.vm.findClass "com/example/fickle/fickle/engine/LeapingChannels" = some m.cls := findClass_of_methodNamed Bd.named
  have hnm := (name_of_methodNamed Bd.named Bd.method).1
  have X0 : Stand p l e ({ frames := 0, cells := 0, slots := 0, locals := 0 } : Room) s m #[(.ref a1), (.int p2)] below meth c s₁ [] 0 0 := Stand.of_body Bd
  have e0 : s₁.heap = h0 := by rw [← hh, Bd.state]; rfl
  have N0 := Fr.nil n0
  have pre0 : own_Go p e below (s₁.setTop (entryFrame m #[(.ref a1), (.int p2)] 3)) (s₁.setTop (mkF m 0 #[.val (.ref a1), .val (.int p2), .unset] [])) := fun t k => castTop (ef_6 m a1 p2) k
  have pre1 : own_Go p e below (s₁.setTop (entryFrame m #[(.ref a1), (.int p2)] 3)) (s₁.setTop (mkF m 1 #[.val (.ref a1), .val (.int p2), .unset] [(.ref a1)])) := fun t k => pre0 t (by
      show Steps p.tables e below (s₁.setTop (mkF m 0 #[.val (.ref a1), .val (.int p2), .unset] [])) _
      refine XS.aloadN X0.here hx rfl (hb hby d6_0) rfl rfl ?_
      exact k)
  obtain ⟨T2, X2, e2, st2⟩ := getF X0 hx hZ hown (host := "") (Or.inl (hw _ (List.mem_of_getElem? (i := 11) rfl))) Via.refl e0 Fm (g := (mkF m 1 #[.val (.ref a1), .val (.int p2), .unset] [(.ref a1)])) rfl rfl (hb hby d6_1)
  have pre3 : own_Go p e below (s₁.setTop (entryFrame m #[(.ref a1), (.int p2)] 3)) (T2.setTop (mkF m 4 #[.val (.ref a1), .val (.int p2), .unset] [(.ref am)])) := fun t k => pre1 t (st2 t k)
  have pre4 : own_Go p e below (s₁.setTop (entryFrame m #[(.ref a1), (.int p2)] 3)) (T2.setTop (mkF m 6 #[.val (.ref a1), .val (.int p2), .unset] [(.ref a1), (.ref a1), (.ref am)])) := fun t k => pre3 t (by
      show Steps p.tables e below (T2.setTop (mkF m 4 #[.val (.ref a1), .val (.int p2), .unset] [(.ref am)])) _
      refine XS.aloadN X2.here hx rfl (hb hby d6_4) rfl rfl ?_
      show Steps p.tables e below (T2.setTop (mkF m 5 #[.val (.ref a1), .val (.int p2), .unset] [(.ref a1), (.ref am)])) _
      refine XS.dup X2.here hx rfl (hb hby d6_5) rfl rfl ?_
      exact k)
  obtain ⟨T5, X5, e5, st5⟩ := getF X2 hx hZ hown (host := "") (Or.inl (hw _ (List.mem_of_getElem? (i := 30) rfl))) Via.refl e2 Fs (g := (mkF m 6 #[.val (.ref a1), .val (.int p2), .unset] [(.ref a1), (.ref a1), (.ref am)])) rfl rfl (hb hby d6_6)
  have pre6 : own_Go p e below (s₁.setTop (entryFrame m #[(.ref a1), (.int p2)] 3)) (T5.setTop (mkF m 9 #[.val (.ref a1), .val (.int p2), .unset] [(.int sz), (.ref a1), (.ref am)])) := fun t k => pre4 t (st5 t k)
  have pre7 : own_Go p e below (s₁.setTop (entryFrame m #[(.ref a1), (.int p2)] 3)) (T5.setTop (mkF m 11 #[.val (.ref a1), .val (.int p2), .unset] [(.int (sz - (1 : Int32))), (.ref a1), (.ref am)])) := fun t k => pre6 t (by
      show Steps p.tables e below (T5.setTop (mkF m 9 #[.val (.ref a1), .val (.int p2), .unset] [(.int sz), (.ref a1), (.ref am)])) _
      refine XS.iconst X5.here hx rfl (hb hby d6_9) ?_
      show Steps p.tables e below (T5.setTop (mkF m 10 #[.val (.ref a1), .val (.int p2), .unset] [(.int (1 : Int32)), (.int sz), (.ref a1), (.ref am)])) _
      refine XS.isub X5.here hx rfl (hb hby d6_10) rfl ?_
      exact k)
  obtain ⟨sq, e_sq, pre8⟩ : ∃ sq : Int32, sq = (sz - (1 : Int32)) ∧ own_Go p e below (s₁.setTop (entryFrame m #[(.ref a1), (.int p2)] 3)) (T5.setTop (mkF m 11 #[.val (.ref a1), .val (.int p2), .unset] [(.int sq), (.ref a1), (.ref am)])) := ⟨_, rfl, pre7⟩
  rw [es] at e_sq
  rw [e_sq] at pre8
  have pre9 : own_Go p e below (s₁.setTop (entryFrame m #[(.ref a1), (.int p2)] 3)) (T5.setTop (mkF m 12 #[.val (.ref a1), .val (.int p2), .unset] [(.int sz'), (.ref a1), (.int sz'), (.ref am)])) := fun t k => pre8 t (by
      show Steps p.tables e below (T5.setTop (mkF m 11 #[.val (.ref a1), .val (.int p2), .unset] [(.int sz'), (.ref a1), (.ref am)])) _
      refine XT.dupX1 X5.here hx rfl (hb hby d6_11) rfl rfl rfl ?_
      exact k)
  obtain ⟨T10, h10, X10, e10, W10, st10⟩ := putF X5 hx hZ hown (host := "") (Or.inl (hw _ (List.mem_of_getElem? (i := 30) rfl))) Via.refl e5 Fs E1 (Or.inl (hw _ (List.mem_of_getElem? (i := 31) rfl))) (hw _ (List.mem_of_getElem? (i := 2) rfl)) (ty := .int) (by decide) rfl rfl (g := (mkF m 12 #[.val (.ref a1), .val (.int p2), .unset] [(.int sz'), (.ref a1), (.int sz'), (.ref am)])) rfl rfl (hb hby d6_12)
  have N10 := Fr.snoc X10 N0 g1
  have pre11 : own_Go p e below (s₁.setTop (entryFrame m #[(.ref a1), (.int p2)] 3)) (T10.setTop (mkF m 15 #[.val (.ref a1), .val (.int p2), .unset] [(.int sz'), (.ref am)])) := fun t k => pre9 t (st10 t k)
  have F_12 := Fm.other W10 (Or.inr (slot_ne (Or.inr (hw _ (List.mem_of_getElem? (i := 12) rfl))) (Or.inl (hw _ (List.mem_of_getElem? (i := 31) rfl))) (by decide) (t := (.array .int)) (by decide) (t' := .int) (by decide)))
  have F_13 := Fp.other W10 (Or.inr (slot_ne (Or.inr (hw _ (List.mem_of_getElem? (i := 14) rfl))) (Or.inl (hw _ (List.mem_of_getElem? (i := 31) rfl))) (by decide) (t := (.array .int)) (by decide) (t' := .int) (by decide)))
  have F_14 := Fh.other W10 (Or.inr (slot_ne (Or.inr (hw _ (List.mem_of_getElem? (i := 17) rfl))) (Or.inl (hw _ (List.mem_of_getElem? (i := 31) rfl))) (by decide) (t := (.array .boolean)) (by decide) (t' := .int) (by decide)))
  have F_15 := Fs.same W10
  have Ex_16 := E1.wr W10
  have V_17 := Vm.other W10 (Ne.symm ne1)
  have V_18 := Vp.other W10 (Ne.symm ne2)
  have V_19 := Vh.other W10 (Ne.symm ne3)
  have K_20 := (Keep.refl h0 [a1, am, ap, ah]).wr W10 (Or.inl (List.mem_of_getElem? (i := 0) rfl))
  obtain ⟨cl21, Ar21, hin21, hv21⟩ := own_A.at V_17 (j := sz') s0 s1
  have pre22 : own_Go p e below (s₁.setTop (entryFrame m #[(.ref a1), (.int p2)] 3)) (T10.setTop (mkF m 16 #[.val (.ref a1), .val (.int p2), .unset] [(.int la)])) := fun t k => pre11 t (X10.iaload hx (j := sz') (v := .int la) (by rw [show T10.heap = h10 from e10]; exact Ar21.1) (State.isArrayOf_alike hZ.alike Ar21.2.1) Ar21.2.2 hin21 (hv21.trans (congrArg (fun z => some (Value.int z)) hl)) (g := (mkF m 15 #[.val (.ref a1), .val (.int p2), .unset] [(.int sz'), (.ref am)])) rfl rfl (hb hby d6_15) t k)
  have pre23 : own_Go p e below (s₁.setTop (entryFrame m #[(.ref a1), (.int p2)] 3)) (T10.setTop (mkF m 18 #[.val (.ref a1), .val (.int p2), .val (.int la)] [(.ref a1)])) := fun t k => pre22 t (by
      show Steps p.tables e below (T10.setTop (mkF m 16 #[.val (.ref a1), .val (.int p2), .unset] [(.int la)])) _
      refine XS.istoreN X10.here hx rfl (hb hby d6_16) rfl (l' := #[.val (.ref a1), .val (.int p2), .val (.int la)]) rfl ?_
      show Steps p.tables e below (T10.setTop (mkF m 17 #[.val (.ref a1), .val (.int p2), .val (.int la)] [])) _
      refine XS.aloadN X10.here hx rfl (hb hby d6_17) rfl rfl ?_
      exact k)
  obtain ⟨T24, X24, e24, st24⟩ := getF X10 hx hZ hown (host := "") (Or.inl (hw _ (List.mem_of_getElem? (i := 11) rfl))) Via.refl e10 F_12 (g := (mkF m 18 #[.val (.ref a1), .val (.int p2), .val (.int la)] [(.ref a1)])) rfl rfl (hb hby d6_18)
  have pre25 : own_Go p e below (s₁.setTop (entryFrame m #[(.ref a1), (.int p2)] 3)) (T24.setTop (mkF m 21 #[.val (.ref a1), .val (.int p2), .val (.int la)] [(.ref am)])) := fun t k => pre23 t (st24 t k)
  have pre26 : own_Go p e below (s₁.setTop (entryFrame m #[(.ref a1), (.int p2)] 3)) (T24.setTop (mkF m 22 #[.val (.ref a1), .val (.int p2), .val (.int la)] [(.ref a1), (.ref am)])) := fun t k => pre25 t (by
      show Steps p.tables e below (T24.setTop (mkF m 21 #[.val (.ref a1), .val (.int p2), .val (.int la)] [(.ref am)])) _
      refine XS.aloadN X24.here hx rfl (hb hby d6_21) rfl rfl ?_
      exact k)
  obtain ⟨T27, X27, e27, st27⟩ := getF X24 hx hZ hown (host := "") (Or.inl (hw _ (List.mem_of_getElem? (i := 13) rfl))) Via.refl e24 F_13 (g := (mkF m 22 #[.val (.ref a1), .val (.int p2), .val (.int la)] [(.ref a1), (.ref am)])) rfl rfl (hb hby d6_22)
  have pre28 : own_Go p e below (s₁.setTop (entryFrame m #[(.ref a1), (.int p2)] 3)) (T27.setTop (mkF m 25 #[.val (.ref a1), .val (.int p2), .val (.int la)] [(.ref ap), (.ref am)])) := fun t k => pre26 t (st27 t k)
  have pre29 : own_Go p e below (s₁.setTop (entryFrame m #[(.ref a1), (.int p2)] 3)) (T27.setTop (mkF m 26 #[.val (.ref a1), .val (.int p2), .val (.int la)] [(.int p2), (.ref ap), (.ref am)])) := fun t k => pre28 t (by
      show Steps p.tables e below (T27.setTop (mkF m 25 #[.val (.ref a1), .val (.int p2), .val (.int la)] [(.ref ap), (.ref am)])) _
      refine XS.iloadN X27.here hx rfl (hb hby d6_25) rfl ?_
      exact k)
  obtain ⟨cl30, Ar30, hin30, hv30⟩ := own_A.at V_18 (j := p2) c0 c1
  have pre31 : own_Go p e below (s₁.setTop (entryFrame m #[(.ref a1), (.int p2)] 3)) (T27.setTop (mkF m 27 #[.val (.ref a1), .val (.int p2), .val (.int la)] [(.int po), (.ref am)])) := fun t k => pre29 t (X27.iaload hx (j := p2) (v := .int po) (by rw [show T27.heap = h10 from e27]; exact Ar30.1) (State.isArrayOf_alike hZ.alike Ar30.2.1) Ar30.2.2 hin30 (hv30.trans (congrArg (fun z => some (Value.int z)) hp)) (g := (mkF m 26 #[.val (.ref a1), .val (.int p2), .val (.int la)] [(.int p2), (.ref ap), (.ref am)])) rfl rfl (hb hby d6_26) t k)
  have pre32 : own_Go p e below (s₁.setTop (entryFrame m #[(.ref a1), (.int p2)] 3)) (T27.setTop (mkF m 28 #[.val (.ref a1), .val (.int p2), .val (.int la)] [(.int la), (.int po), (.ref am)])) := fun t k => pre31 t (by
      show Steps p.tables e below (T27.setTop (mkF m 27 #[.val (.ref a1), .val (.int p2), .val (.int la)] [(.int po), (.ref am)])) _
      refine XS.iloadN X27.here hx rfl (hb hby d6_27) rfl ?_
      exact k)
  obtain ⟨cl33, Ar33, hin33, -⟩ := own_A.at V_17 (j := po) q0 q1
  obtain ⟨T33, h33, X33, e33, W33, st33⟩ := stI X27 hx hZ e27 Ar33 (j := po) hin33 (g := (mkF m 28 #[.val (.ref a1), .val (.int p2), .val (.int la)] [(.int la), (.int po), (.ref am)])) rfl rfl (hb hby d6_28)
  have N33 := Fr.snoc X33 N10 gm
  have pre34 : own_Go p e below (s₁.setTop (entryFrame m #[(.ref a1), (.int p2)] 3)) (T33.setTop (mkF m 29 #[.val (.ref a1), .val (.int p2), .val (.int la)] [])) := fun t k => pre32 t (st33 t k)
  have V_35 := own_A.set V_17 W33 rfl
  have F_36 := F_12.other W33 (Or.inl ne1)
  have F_37 := F_13.other W33 (Or.inl ne1)
  have F_38 := F_14.other W33 (Or.inl ne1)
  have F_39 := F_15.other W33 (Or.inl ne1)
  have Ex_40 := Ex_16.wr W33
  have V_41 := V_18.other W33 (Ne.symm ne4)
  have V_42 := V_19.other W33 (Ne.symm ne5)
  have K_43 := K_20.wr W33 (Or.inl (List.mem_of_getElem? (i := 1) rfl))
  have pre44 : own_Go p e below (s₁.setTop (entryFrame m #[(.ref a1), (.int p2)] 3)) (T33.setTop (mkF m 30 #[.val (.ref a1), .val (.int p2), .val (.int la)] [(.ref a1)])) := fun t k => pre34 t (by
      show Steps p.tables e below (T33.setTop (mkF m 29 #[.val (.ref a1), .val (.int p2), .val (.int la)] [])) _
      refine XS.aloadN X33.here hx rfl (hb hby d6_29) rfl rfl ?_
      exact k)
  obtain ⟨T45, X45, e45, st45⟩ := getF X33 hx hZ hown (host := "") (Or.inl (hw _ (List.mem_of_getElem? (i := 13) rfl))) Via.refl e33 F_37 (g := (mkF m 30 #[.val (.ref a1), .val (.int p2), .val (.int la)] [(.ref a1)])) rfl rfl (hb hby d6_30)
  have pre46 : own_Go p e below (s₁.setTop (entryFrame m #[(.ref a1), (.int p2)] 3)) (T45.setTop (mkF m 33 #[.val (.ref a1), .val (.int p2), .val (.int la)] [(.ref ap)])) := fun t k => pre44 t (st45 t k)
  have pre47 : own_Go p e below (s₁.setTop (entryFrame m #[(.ref a1), (.int p2)] 3)) (T45.setTop (mkF m 35 #[.val (.ref a1), .val (.int p2), .val (.int la)] [(.ref a1), (.int la), (.ref ap)])) := fun t k => pre46 t (by
      show Steps p.tables e below (T45.setTop (mkF m 33 #[.val (.ref a1), .val (.int p2), .val (.int la)] [(.ref ap)])) _
      refine XS.iloadN X45.here hx rfl (hb hby d6_33) rfl ?_
      show Steps p.tables e below (T45.setTop (mkF m 34 #[.val (.ref a1), .val (.int p2), .val (.int la)] [(.int la), (.ref ap)])) _
      refine XS.aloadN X45.here hx rfl (hb hby d6_34) rfl rfl ?_
      exact k)
  obtain ⟨T48, X48, e48, st48⟩ := getF X45 hx hZ hown (host := "") (Or.inl (hw _ (List.mem_of_getElem? (i := 13) rfl))) Via.refl e45 F_37 (g := (mkF m 35 #[.val (.ref a1), .val (.int p2), .val (.int la)] [(.ref a1), (.int la), (.ref ap)])) rfl rfl (hb hby d6_35)
  have pre49 : own_Go p e below (s₁.setTop (entryFrame m #[(.ref a1), (.int p2)] 3)) (T48.setTop (mkF m 38 #[.val (.ref a1), .val (.int p2), .val (.int la)] [(.ref ap), (.int la), (.ref ap)])) := fun t k => pre47 t (st48 t k)
  have pre50 : own_Go p e below (s₁.setTop (entryFrame m #[(.ref a1), (.int p2)] 3)) (T48.setTop (mkF m 39 #[.val (.ref a1), .val (.int p2), .val (.int la)] [(.int p2), (.ref ap), (.int la), (.ref ap)])) := fun t k => pre49 t (by
      show Steps p.tables e below (T48.setTop (mkF m 38 #[.val (.ref a1), .val (.int p2), .val (.int la)] [(.ref ap), (.int la), (.ref ap)])) _
      refine XS.iloadN X48.here hx rfl (hb hby d6_38) rfl ?_
      exact k)
  obtain ⟨cl51, Ar51, hin51, hv51⟩ := own_A.at V_41 (j := p2) c0 c1
  have pre52 : own_Go p e below (s₁.setTop (entryFrame m #[(.ref a1), (.int p2)] 3)) (T48.setTop (mkF m 40 #[.val (.ref a1), .val (.int p2), .val (.int la)] [(.int po), (.int la), (.ref ap)])) := fun t k => pre50 t (X48.iaload hx (j := p2) (v := .int po) (by rw [show T48.heap = h33 from e48]; exact Ar51.1) (State.isArrayOf_alike hZ.alike Ar51.2.1) Ar51.2.2 hin51 (hv51.trans (congrArg (fun z => some (Value.int z)) hp)) (g := (mkF m 39 #[.val (.ref a1), .val (.int p2), .val (.int la)] [(.int p2), (.ref ap), (.int la), (.ref ap)])) rfl rfl (hb hby d6_39) t k)
  obtain ⟨cl53, Ar53, hin53, -⟩ := own_A.at V_41 (j := la) l0 l1
  obtain ⟨T53, h53, X53, e53, W53, st53⟩ := stI X48 hx hZ e48 Ar53 (j := la) hin53 (g := (mkF m 40 #[.val (.ref a1), .val (.int p2), .val (.int la)] [(.int po), (.int la), (.ref ap)])) rfl rfl (hb hby d6_40)
  have N53 := Fr.snoc X53 N33 gp
  have pre54 : own_Go p e below (s₁.setTop (entryFrame m #[(.ref a1), (.int p2)] 3)) (T53.setTop (mkF m 41 #[.val (.ref a1), .val (.int p2), .val (.int la)] [])) := fun t k => pre52 t (st53 t k)
  have V_55 := own_A.set V_41 W53 rfl
  have F_56 := F_36.other W53 (Or.inl ne2)
  have F_57 := F_37.other W53 (Or.inl ne2)
  have F_58 := F_38.other W53 (Or.inl ne2)
  have F_59 := F_39.other W53 (Or.inl ne2)
  have Ex_60 := Ex_40.wr W53
  have V_61 := V_35.other W53 ne4
  have V_62 := V_42.other W53 (Ne.symm ne6)
  have K_63 := K_43.wr W53 (Or.inl (List.mem_of_getElem? (i := 2) rfl))
  have pre64 : own_Go p e below (s₁.setTop (entryFrame m #[(.ref a1), (.int p2)] 3)) (T53.setTop (mkF m 42 #[.val (.ref a1), .val (.int p2), .val (.int la)] [(.ref a1)])) := fun t k => pre54 t (by
      show Steps p.tables e below (T53.setTop (mkF m 41 #[.val (.ref a1), .val (.int p2), .val (.int la)] [])) _
      refine XS.aloadN X53.here hx rfl (hb hby d6_41) rfl rfl ?_
      exact k)
  obtain ⟨T65, X65, e65, st65⟩ := getF X53 hx hZ hown (host := "") (Or.inl (hw _ (List.mem_of_getElem? (i := 16) rfl))) Via.refl e53 F_58 (g := (mkF m 42 #[.val (.ref a1), .val (.int p2), .val (.int la)] [(.ref a1)])) rfl rfl (hb hby d6_42)
  have pre66 : own_Go p e below (s₁.setTop (entryFrame m #[(.ref a1), (.int p2)] 3)) (T65.setTop (mkF m 45 #[.val (.ref a1), .val (.int p2), .val (.int la)] [(.ref ah)])) := fun t k => pre64 t (st65 t k)
  have pre67 : own_Go p e below (s₁.setTop (entryFrame m #[(.ref a1), (.int p2)] 3)) (T65.setTop (mkF m 47 #[.val (.ref a1), .val (.int p2), .val (.int la)] [(.int (0 : Int32)), (.int p2), (.ref ah)])) := fun t k => pre66 t (by
      show Steps p.tables e below (T65.setTop (mkF m 45 #[.val (.ref a1), .val (.int p2), .val (.int la)] [(.ref ah)])) _
      refine XS.iloadN X65.here hx rfl (hb hby d6_45) rfl ?_
      show Steps p.tables e below (T65.setTop (mkF m 46 #[.val (.ref a1), .val (.int p2), .val (.int la)] [(.int p2), (.ref ah)])) _
      refine XS.iconst X65.here hx rfl (hb hby d6_46) ?_
      exact k)
  obtain ⟨cl68, Ar68, hin68, -⟩ := own_A.at V_62 (j := p2) c0 c1
  obtain ⟨T68, h68, X68, e68, W68, st68⟩ := stZ X65 hx hZ e65 Ar68 (j := p2) hin68 (g := (mkF m 47 #[.val (.ref a1), .val (.int p2), .val (.int la)] [(.int (0 : Int32)), (.int p2), (.ref ah)])) rfl rfl (hb hby d6_47)
  have N68 := Fr.snoc X68 N53 gh
  have pre69 : own_Go p e below (s₁.setTop (entryFrame m #[(.ref a1), (.int p2)] 3)) (T68.setTop (mkF m 48 #[.val (.ref a1), .val (.int p2), .val (.int la)] [])) := fun t k => pre67 t (st68 t k)
  have V_70 := own_A.set V_62 W68 (fits_nar_bool _)
  have F_71 := F_56.other W68 (Or.inl ne3)
  have F_72 := F_57.other W68 (Or.inl ne3)
  have F_73 := F_58.other W68 (Or.inl ne3)
  have F_74 := F_59.other W68 (Or.inl ne3)
  have Ex_75 := Ex_60.wr W68
  have V_76 := V_61.other W68 ne5
  have V_77 := V_55.other W68 ne6
  have K_78 := K_63.wr W68 (Or.inl (List.mem_of_getElem? (i := 3) rfl))
  obtain ⟨fs, hr, hrun, hended, hW, hsame⟩ := X68.leave (v := none) (fun _ => rfl)
  refine ⟨_, _, pre69 _ ?_, hrun, hended, _, _, rfl, ?_, ⟨_, rfl⟩, hW, hsame.mono (by decide) (by decide)⟩
  · show Steps p.tables e below (T68.setTop (mkF m 48 #[.val (.ref a1), .val (.int p2), .val (.int la)] [])) _
    exact X68.returnOut hx Bd.returns (hb hby d6_48) hr
  · show Q6 Z a1 am ap ah sz nn fm fp fh sz' la po h0 n0 _ T68.heap _
    rw [e68]
    exact ⟨rfl, N68, K_78, F_71, F_72, F_73, F_74, V_76⟩
def Q0 (Z : State) (p1 p2 p3 p4 p5 p6 : Int32) (h0 : Heap) (n0 : Nat) (v : Option Value) (h : Heap) (L : List Loc) : Prop := v = some (.int (1 : Int32)) ∧ Fr n0 L
theorem pn_0 : plainName "com/example/fickle/fickle/engine/LeapingChannelsAddPinLaw" = true := by first | (simp [plainName, overriddenIn]; done) | decide +kernel
theorem pd_0_0 : parseMethodDescriptor "(II)V" = some ⟨[.int, .int], none⟩ := by decide +kernel
theorem pd_0_1 : parseMethodDescriptor "(I)V" = some ⟨[.int], none⟩ := by decide +kernel
theorem pd_0_2 : parseMethodDescriptor "()I" = some ⟨[], some .int⟩ := by decide +kernel
theorem pd_0_3 : parseMethodDescriptor "(I)I" = some ⟨[.int], some .int⟩ := by decide +kernel
theorem pd_0_4 : parseMethodDescriptor "(I)Z" = some ⟨[.int], some .boolean⟩ := by decide +kernel
theorem ef_0 (m : MethodId) (x0 : Int32) (x1 : Int32) (x2 : Int32) (x3 : Int32) (x4 : Int32) (x5 : Int32) : entryFrame m #[(.int x0), (.int x1), (.int x2), (.int x3), (.int x4), (.int x5)] maxLocals = mkF m 0 #[.val (.int x0), .val (.int x1), .val (.int x2), .val (.int x3), .val (.int x4), .val (.int x5), .unset, .unset, .unset, .unset, .unset, .unset, .unset, .unset, .unset, .unset, .unset, .unset, .unset, .unset] [] := by first | (simp [entryFrame, mkF, argsToLocals, Value.category, maxLocals]; done) | rfl
set_option maxRecDepth 65536 in
set_option maxHeartbeats 40000000 in
theorem rm0 (l : Launch) (Z : State) (a0 : Array Value) (hw : ∀ d ∈ tables_1, d.before a0 Z = true) (ws : List Jvm.Cond) (p1 p2 p3 p4 p5 p6 : Int32) (h0 : Heap) (n0 : Nat) (Z0 : n0 ≤ h0.size)  :
    MetFree l x (head1 (Jvm.Cond.code x code maxLocals ret :: ws) room_1) (fun a U => a = #[(.int p1), (.int p2), (.int p3), (.int p4), (.int p5), (.int p6)] ∧ Z.Warmed39 U.vm ∧ U.heap = h0) (fun _ _ _ _ _ => True) (fun _ U o U' => ∃ v L, o = .returned v ∧ Q0 Z p1 p2 p3 p4 p5 p6 h0 n0 v U'.heap L ∧ FrameEnd U o U' L room_1.cells room_1.slots) := by
  refine MetFree.of_bodySF (plainFor_of_name pn_0) hisR ?_
  intro p e s m args below meth c s₁ Bd hml0 hP hK
  obtain ⟨rfl, hZ, hh⟩ := hP
  have hx := Bd.exec
  have hby := Bd.bytes
  have hml : c.maxLocals = 20 := hml0
  have hown : s.vm.findClass "com/example/fickle/fickle/engine/LeapingChannelsAddPinLaw" = some m.cls := findClass_of_methodNamed Bd.named
  have hnm := (name_of_methodNamed Bd.named Bd.method).1
  have X0 : Stand p l e room_1 s m #[(.int p1), (.int p2), (.int p3), (.int p4), (.int p5), (.int p6)] below meth c s₁ [] 0 0 := Stand.of_body Bd
  have e0 : s₁.heap = h0 := by rw [← hh, Bd.state]; rfl
  have N0 := Fr.nil n0
  have pre0 : own_Go p e below (s₁.setTop (entryFrame m #[(.int p1), (.int p2), (.int p3), (.int p4), (.int p5), (.int p6)] maxLocals)) (s₁.setTop (mkF m 0 #[.val (.int p1), .val (.int p2), .val (.int p3), .val (.int p4), .val (.int p5), .val (.int p6), .unset, .unset, .unset, .unset, .unset, .unset, .unset, .unset, .unset, .unset, .unset, .unset, .unset, .unset] [])) := fun t k => castTop (ef_0 m p1 p2 p3 p4 p5 p6) k
  have pre1 : own_Go p e below (s₁.setTop (entryFrame m #[(.int p1), (.int p2), (.int p3), (.int p4), (.int p5), (.int p6)] maxLocals)) (s₁.setTop (mkF m 6 #[.val (.int p1), .val (.int p2), .val (.int p3), .val (.int p4), .val (.int p5), .val (.int p6), .unset, .unset, .unset, .unset, .unset, .unset, .unset, .unset, .unset, .unset, .unset, .unset, .unset, .unset] [(.int ((3 : Int32) + (p1 &&& (7 : Int32))))])) := fun t k => pre0 t (by
      show Steps p.tables e below (s₁.setTop (mkF m 0 #[.val (.int p1), .val (.int p2), .val (.int p3), .val (.int p4), .val (.int p5), .val (.int p6), .unset, .unset, .unset, .unset, .unset, .unset, .unset, .unset, .unset, .unset, .unset, .unset, .unset, .unset] [])) _
      refine XS.iconst X0.here hx rfl (hb hby at_0) ?_
      show Steps p.tables e below (s₁.setTop (mkF m 1 #[.val (.int p1), .val (.int p2), .val (.int p3), .val (.int p4), .val (.int p5), .val (.int p6), .unset, .unset, .unset, .unset, .unset, .unset, .unset, .unset, .unset, .unset, .unset, .unset, .unset, .unset] [(.int (3 : Int32))])) _
      refine XS.iloadN X0.here hx rfl (hb hby at_1) rfl ?_
      show Steps p.tables e below (s₁.setTop (mkF m 2 #[.val (.int p1), .val (.int p2), .val (.int p3), .val (.int p4), .val (.int p5), .val (.int p6), .unset, .unset, .unset, .unset, .unset, .unset, .unset, .unset, .unset, .unset, .unset, .unset, .unset, .unset] [(.int p1), (.int (3 : Int32))])) _
      refine XS.bipush X0.here hx rfl (hb hby at_2) ?_
      show Steps p.tables e below (s₁.setTop (mkF m 4 #[.val (.int p1), .val (.int p2), .val (.int p3), .val (.int p4), .val (.int p5), .val (.int p6), .unset, .unset, .unset, .unset, .unset, .unset, .unset, .unset, .unset, .unset, .unset, .unset, .unset, .unset] [(.int (7 : Int32)), (.int p1), (.int (3 : Int32))])) _
      refine XS.iand X0.here hx rfl (hb hby at_4) rfl ?_
      show Steps p.tables e below (s₁.setTop (mkF m 5 #[.val (.int p1), .val (.int p2), .val (.int p3), .val (.int p4), .val (.int p5), .val (.int p6), .unset, .unset, .unset, .unset, .unset, .unset, .unset, .unset, .unset, .unset, .unset, .unset, .unset, .unset] [(.int (p1 &&& (7 : Int32))), (.int (3 : Int32))])) _
      refine XS.iadd X0.here hx rfl (hb hby at_5) rfl ?_
      exact k)
  obtain ⟨xn, e_xn, pre2⟩ : ∃ xn : Int32, xn = ((3 : Int32) + (p1 &&& (7 : Int32))) ∧ own_Go p e below (s₁.setTop (entryFrame m #[(.int p1), (.int p2), (.int p3), (.int p4), (.int p5), (.int p6)] maxLocals)) (s₁.setTop (mkF m 6 #[.val (.int p1), .val (.int p2), .val (.int p3), .val (.int p4), .val (.int p5), .val (.int p6), .unset, .unset, .unset, .unset, .unset, .unset, .unset, .unset, .unset, .unset, .unset, .unset, .unset, .unset] [(.int xn)])) := ⟨_, rfl, pre1⟩
  have hn : 3 ≤ xn.toInt ∧ xn.toInt ≤ 10 := by rw [e_xn]; exact own_n3 p1
  clear e_xn
  have z0 : (0 : Int32).toInt = 0 := by decide
  have z1 : (1 : Int32).toInt = 1 := by decide
  have z2 : (2 : Int32).toInt = 2 := by decide
  have z3 : (3 : Int32).toInt = 3 := by decide
  have hxn : ¬ xn = 0 := own_ne (by omega)
  have s1 := own_sub (x := xn) (k := 1) hn.1 hn.2 (by omega) (by omega)
  have s2 := own_sub (x := xn) (k := 2) hn.1 hn.2 (by omega) (by omega)
  have hxn1 : ¬ xn - (1 : Int32) = 0 := own_ne (by omega)
  have hxn2 : ¬ xn - (2 : Int32) = 0 := own_ne (by omega)
  have pre3 : own_Go p e below (s₁.setTop (entryFrame m #[(.int p1), (.int p2), (.int p3), (.int p4), (.int p5), (.int p6)] maxLocals)) (s₁.setTop (mkF m 15 #[.val (.int p1), .val (.int p2), .val (.int p3), .val (.int p4), .val (.int p5), .val (.int p6), .val (.int xn), .unset, .unset, .unset, .unset, .unset, .unset, .unset, .unset, .unset, .unset, .unset, .unset, .unset] [(.int ((p2 &&& (2147483647 : Int32)) % xn))])) := fun t k => pre2 t (by
      show Steps p.tables e below (s₁.setTop (mkF m 6 #[.val (.int p1), .val (.int p2), .val (.int p3), .val (.int p4), .val (.int p5), .val (.int p6), .unset, .unset, .unset, .unset, .unset, .unset, .unset, .unset, .unset, .unset, .unset, .unset, .unset, .unset] [(.int xn)])) _
      refine XS.istore X0.here hx rfl (hb hby at_6) rfl (l' := #[.val (.int p1), .val (.int p2), .val (.int p3), .val (.int p4), .val (.int p5), .val (.int p6), .val (.int xn), .unset, .unset, .unset, .unset, .unset, .unset, .unset, .unset, .unset, .unset, .unset, .unset, .unset]) rfl ?_
      show Steps p.tables e below (s₁.setTop (mkF m 8 #[.val (.int p1), .val (.int p2), .val (.int p3), .val (.int p4), .val (.int p5), .val (.int p6), .val (.int xn), .unset, .unset, .unset, .unset, .unset, .unset, .unset, .unset, .unset, .unset, .unset, .unset, .unset] [])) _
      refine XS.iloadN X0.here hx rfl (hb hby at_8) rfl ?_
      show Steps p.tables e below (s₁.setTop (mkF m 9 #[.val (.int p1), .val (.int p2), .val (.int p3), .val (.int p4), .val (.int p5), .val (.int p6), .val (.int xn), .unset, .unset, .unset, .unset, .unset, .unset, .unset, .unset, .unset, .unset, .unset, .unset, .unset] [(.int p2)])) _
      refine X0.ldcI hx hown (mvT hZ (hw _ (List.mem_of_getElem? (i := 0) rfl))) rfl (hb hby at_9) ?_
      show Steps p.tables e below (s₁.setTop (mkF m 11 #[.val (.int p1), .val (.int p2), .val (.int p3), .val (.int p4), .val (.int p5), .val (.int p6), .val (.int xn), .unset, .unset, .unset, .unset, .unset, .unset, .unset, .unset, .unset, .unset, .unset, .unset, .unset] [(.int (2147483647 : Int32)), (.int p2)])) _
      refine XS.iand X0.here hx rfl (hb hby at_11) rfl ?_
      show Steps p.tables e below (s₁.setTop (mkF m 12 #[.val (.int p1), .val (.int p2), .val (.int p3), .val (.int p4), .val (.int p5), .val (.int p6), .val (.int xn), .unset, .unset, .unset, .unset, .unset, .unset, .unset, .unset, .unset, .unset, .unset, .unset, .unset] [(.int (p2 &&& (2147483647 : Int32)))])) _
      refine XS.iload X0.here hx rfl (hb hby at_12) rfl ?_
      show Steps p.tables e below (s₁.setTop (mkF m 14 #[.val (.int p1), .val (.int p2), .val (.int p3), .val (.int p4), .val (.int p5), .val (.int p6), .val (.int xn), .unset, .unset, .unset, .unset, .unset, .unset, .unset, .unset, .unset, .unset, .unset, .unset, .unset] [(.int xn), (.int (p2 &&& (2147483647 : Int32)))])) _
      refine iremM X0 hx rfl (hb hby at_14) rfl hxn ?_
      exact k)
  obtain ⟨c0, e_c0, pre4⟩ : ∃ c0 : Int32, c0 = ((p2 &&& (2147483647 : Int32)) % xn) ∧ own_Go p e below (s₁.setTop (entryFrame m #[(.int p1), (.int p2), (.int p3), (.int p4), (.int p5), (.int p6)] maxLocals)) (s₁.setTop (mkF m 15 #[.val (.int p1), .val (.int p2), .val (.int p3), .val (.int p4), .val (.int p5), .val (.int p6), .val (.int xn), .unset, .unset, .unset, .unset, .unset, .unset, .unset, .unset, .unset, .unset, .unset, .unset, .unset] [(.int c0)])) := ⟨_, rfl, pre3⟩
  have hc0 : 0 ≤ c0.toInt ∧ c0.toInt < xn.toInt := by rw [e_c0]; exact own_remr (own_mask p2) (by omega)
  clear e_c0
  have pre5 : own_Go p e below (s₁.setTop (entryFrame m #[(.int p1), (.int p2), (.int p3), (.int p4), (.int p5), (.int p6)] maxLocals)) (s₁.setTop (mkF m 28 #[.val (.int p1), .val (.int p2), .val (.int p3), .val (.int p4), .val (.int p5), .val (.int p6), .val (.int xn), .val (.int c0), .unset, .unset, .unset, .unset, .unset, .unset, .unset, .unset, .unset, .unset, .unset, .unset] [(.int ((1 : Int32) + ((p3 &&& (2147483647 : Int32)) % (xn - (1 : Int32)))))])) := fun t k => pre4 t (by
      show Steps p.tables e below (s₁.setTop (mkF m 15 #[.val (.int p1), .val (.int p2), .val (.int p3), .val (.int p4), .val (.int p5), .val (.int p6), .val (.int xn), .unset, .unset, .unset, .unset, .unset, .unset, .unset, .unset, .unset, .unset, .unset, .unset, .unset] [(.int c0)])) _
      refine XS.istore X0.here hx rfl (hb hby at_15) rfl (l' := #[.val (.int p1), .val (.int p2), .val (.int p3), .val (.int p4), .val (.int p5), .val (.int p6), .val (.int xn), .val (.int c0), .unset, .unset, .unset, .unset, .unset, .unset, .unset, .unset, .unset, .unset, .unset, .unset]) rfl ?_
      show Steps p.tables e below (s₁.setTop (mkF m 17 #[.val (.int p1), .val (.int p2), .val (.int p3), .val (.int p4), .val (.int p5), .val (.int p6), .val (.int xn), .val (.int c0), .unset, .unset, .unset, .unset, .unset, .unset, .unset, .unset, .unset, .unset, .unset, .unset] [])) _
      refine XS.iconst X0.here hx rfl (hb hby at_17) ?_
      show Steps p.tables e below (s₁.setTop (mkF m 18 #[.val (.int p1), .val (.int p2), .val (.int p3), .val (.int p4), .val (.int p5), .val (.int p6), .val (.int xn), .val (.int c0), .unset, .unset, .unset, .unset, .unset, .unset, .unset, .unset, .unset, .unset, .unset, .unset] [(.int (1 : Int32))])) _
      refine XS.iloadN X0.here hx rfl (hb hby at_18) rfl ?_
      show Steps p.tables e below (s₁.setTop (mkF m 19 #[.val (.int p1), .val (.int p2), .val (.int p3), .val (.int p4), .val (.int p5), .val (.int p6), .val (.int xn), .val (.int c0), .unset, .unset, .unset, .unset, .unset, .unset, .unset, .unset, .unset, .unset, .unset, .unset] [(.int p3), (.int (1 : Int32))])) _
      refine X0.ldcI hx hown (mvT hZ (hw _ (List.mem_of_getElem? (i := 0) rfl))) rfl (hb hby at_19) ?_
      show Steps p.tables e below (s₁.setTop (mkF m 21 #[.val (.int p1), .val (.int p2), .val (.int p3), .val (.int p4), .val (.int p5), .val (.int p6), .val (.int xn), .val (.int c0), .unset, .unset, .unset, .unset, .unset, .unset, .unset, .unset, .unset, .unset, .unset, .unset] [(.int (2147483647 : Int32)), (.int p3), (.int (1 : Int32))])) _
      refine XS.iand X0.here hx rfl (hb hby at_21) rfl ?_
      show Steps p.tables e below (s₁.setTop (mkF m 22 #[.val (.int p1), .val (.int p2), .val (.int p3), .val (.int p4), .val (.int p5), .val (.int p6), .val (.int xn), .val (.int c0), .unset, .unset, .unset, .unset, .unset, .unset, .unset, .unset, .unset, .unset, .unset, .unset] [(.int (p3 &&& (2147483647 : Int32))), (.int (1 : Int32))])) _
      refine XS.iload X0.here hx rfl (hb hby at_22) rfl ?_
      show Steps p.tables e below (s₁.setTop (mkF m 24 #[.val (.int p1), .val (.int p2), .val (.int p3), .val (.int p4), .val (.int p5), .val (.int p6), .val (.int xn), .val (.int c0), .unset, .unset, .unset, .unset, .unset, .unset, .unset, .unset, .unset, .unset, .unset, .unset] [(.int xn), (.int (p3 &&& (2147483647 : Int32))), (.int (1 : Int32))])) _
      refine XS.iconst X0.here hx rfl (hb hby at_24) ?_
      show Steps p.tables e below (s₁.setTop (mkF m 25 #[.val (.int p1), .val (.int p2), .val (.int p3), .val (.int p4), .val (.int p5), .val (.int p6), .val (.int xn), .val (.int c0), .unset, .unset, .unset, .unset, .unset, .unset, .unset, .unset, .unset, .unset, .unset, .unset] [(.int (1 : Int32)), (.int xn), (.int (p3 &&& (2147483647 : Int32))), (.int (1 : Int32))])) _
      refine XS.isub X0.here hx rfl (hb hby at_25) rfl ?_
      show Steps p.tables e below (s₁.setTop (mkF m 26 #[.val (.int p1), .val (.int p2), .val (.int p3), .val (.int p4), .val (.int p5), .val (.int p6), .val (.int xn), .val (.int c0), .unset, .unset, .unset, .unset, .unset, .unset, .unset, .unset, .unset, .unset, .unset, .unset] [(.int (xn - (1 : Int32))), (.int (p3 &&& (2147483647 : Int32))), (.int (1 : Int32))])) _
      refine iremM X0 hx rfl (hb hby at_26) rfl hxn1 ?_
      show Steps p.tables e below (s₁.setTop (mkF m 27 #[.val (.int p1), .val (.int p2), .val (.int p3), .val (.int p4), .val (.int p5), .val (.int p6), .val (.int xn), .val (.int c0), .unset, .unset, .unset, .unset, .unset, .unset, .unset, .unset, .unset, .unset, .unset, .unset] [(.int ((p3 &&& (2147483647 : Int32)) % (xn - (1 : Int32)))), (.int (1 : Int32))])) _
      refine XS.iadd X0.here hx rfl (hb hby at_27) rfl ?_
      exact k)
  obtain ⟨d1, e_d1, pre6⟩ : ∃ d1 : Int32, d1 = ((1 : Int32) + ((p3 &&& (2147483647 : Int32)) % (xn - (1 : Int32)))) ∧ own_Go p e below (s₁.setTop (entryFrame m #[(.int p1), (.int p2), (.int p3), (.int p4), (.int p5), (.int p6)] maxLocals)) (s₁.setTop (mkF m 28 #[.val (.int p1), .val (.int p2), .val (.int p3), .val (.int p4), .val (.int p5), .val (.int p6), .val (.int xn), .val (.int c0), .unset, .unset, .unset, .unset, .unset, .unset, .unset, .unset, .unset, .unset, .unset, .unset] [(.int d1)])) := ⟨_, rfl, pre5⟩
  have hd1 : 1 ≤ d1.toInt ∧ d1.toInt ≤ xn.toInt - 1 := by
    have r := own_remr (own_mask p3) (show 0 < (xn - (1 : Int32)).toInt by omega)
    rw [e_d1, own_1add (by omega) (by omega)]; omega
  clear e_d1
  have pre7 : own_Go p e below (s₁.setTop (entryFrame m #[(.int p1), (.int p2), (.int p3), (.int p4), (.int p5), (.int p6)] maxLocals)) (s₁.setTop (mkF m 41 #[.val (.int p1), .val (.int p2), .val (.int p3), .val (.int p4), .val (.int p5), .val (.int p6), .val (.int xn), .val (.int c0), .val (.int d1), .unset, .unset, .unset, .unset, .unset, .unset, .unset, .unset, .unset, .unset, .unset] [(.int ((1 : Int32) + ((p4 &&& (2147483647 : Int32)) % (xn - (2 : Int32)))))])) := fun t k => pre6 t (by
      show Steps p.tables e below (s₁.setTop (mkF m 28 #[.val (.int p1), .val (.int p2), .val (.int p3), .val (.int p4), .val (.int p5), .val (.int p6), .val (.int xn), .val (.int c0), .unset, .unset, .unset, .unset, .unset, .unset, .unset, .unset, .unset, .unset, .unset, .unset] [(.int d1)])) _
      refine XS.istore X0.here hx rfl (hb hby at_28) rfl (l' := #[.val (.int p1), .val (.int p2), .val (.int p3), .val (.int p4), .val (.int p5), .val (.int p6), .val (.int xn), .val (.int c0), .val (.int d1), .unset, .unset, .unset, .unset, .unset, .unset, .unset, .unset, .unset, .unset, .unset]) rfl ?_
      show Steps p.tables e below (s₁.setTop (mkF m 30 #[.val (.int p1), .val (.int p2), .val (.int p3), .val (.int p4), .val (.int p5), .val (.int p6), .val (.int xn), .val (.int c0), .val (.int d1), .unset, .unset, .unset, .unset, .unset, .unset, .unset, .unset, .unset, .unset, .unset] [])) _
      refine XS.iconst X0.here hx rfl (hb hby at_30) ?_
      show Steps p.tables e below (s₁.setTop (mkF m 31 #[.val (.int p1), .val (.int p2), .val (.int p3), .val (.int p4), .val (.int p5), .val (.int p6), .val (.int xn), .val (.int c0), .val (.int d1), .unset, .unset, .unset, .unset, .unset, .unset, .unset, .unset, .unset, .unset, .unset] [(.int (1 : Int32))])) _
      refine XS.iloadN X0.here hx rfl (hb hby at_31) rfl ?_
      show Steps p.tables e below (s₁.setTop (mkF m 32 #[.val (.int p1), .val (.int p2), .val (.int p3), .val (.int p4), .val (.int p5), .val (.int p6), .val (.int xn), .val (.int c0), .val (.int d1), .unset, .unset, .unset, .unset, .unset, .unset, .unset, .unset, .unset, .unset, .unset] [(.int p4), (.int (1 : Int32))])) _
      refine X0.ldcI hx hown (mvT hZ (hw _ (List.mem_of_getElem? (i := 0) rfl))) rfl (hb hby at_32) ?_
      show Steps p.tables e below (s₁.setTop (mkF m 34 #[.val (.int p1), .val (.int p2), .val (.int p3), .val (.int p4), .val (.int p5), .val (.int p6), .val (.int xn), .val (.int c0), .val (.int d1), .unset, .unset, .unset, .unset, .unset, .unset, .unset, .unset, .unset, .unset, .unset] [(.int (2147483647 : Int32)), (.int p4), (.int (1 : Int32))])) _
      refine XS.iand X0.here hx rfl (hb hby at_34) rfl ?_
      show Steps p.tables e below (s₁.setTop (mkF m 35 #[.val (.int p1), .val (.int p2), .val (.int p3), .val (.int p4), .val (.int p5), .val (.int p6), .val (.int xn), .val (.int c0), .val (.int d1), .unset, .unset, .unset, .unset, .unset, .unset, .unset, .unset, .unset, .unset, .unset] [(.int (p4 &&& (2147483647 : Int32))), (.int (1 : Int32))])) _
      refine XS.iload X0.here hx rfl (hb hby at_35) rfl ?_
      show Steps p.tables e below (s₁.setTop (mkF m 37 #[.val (.int p1), .val (.int p2), .val (.int p3), .val (.int p4), .val (.int p5), .val (.int p6), .val (.int xn), .val (.int c0), .val (.int d1), .unset, .unset, .unset, .unset, .unset, .unset, .unset, .unset, .unset, .unset, .unset] [(.int xn), (.int (p4 &&& (2147483647 : Int32))), (.int (1 : Int32))])) _
      refine XS.iconst X0.here hx rfl (hb hby at_37) ?_
      show Steps p.tables e below (s₁.setTop (mkF m 38 #[.val (.int p1), .val (.int p2), .val (.int p3), .val (.int p4), .val (.int p5), .val (.int p6), .val (.int xn), .val (.int c0), .val (.int d1), .unset, .unset, .unset, .unset, .unset, .unset, .unset, .unset, .unset, .unset, .unset] [(.int (2 : Int32)), (.int xn), (.int (p4 &&& (2147483647 : Int32))), (.int (1 : Int32))])) _
      refine XS.isub X0.here hx rfl (hb hby at_38) rfl ?_
      show Steps p.tables e below (s₁.setTop (mkF m 39 #[.val (.int p1), .val (.int p2), .val (.int p3), .val (.int p4), .val (.int p5), .val (.int p6), .val (.int xn), .val (.int c0), .val (.int d1), .unset, .unset, .unset, .unset, .unset, .unset, .unset, .unset, .unset, .unset, .unset] [(.int (xn - (2 : Int32))), (.int (p4 &&& (2147483647 : Int32))), (.int (1 : Int32))])) _
      refine iremM X0 hx rfl (hb hby at_39) rfl hxn2 ?_
      show Steps p.tables e below (s₁.setTop (mkF m 40 #[.val (.int p1), .val (.int p2), .val (.int p3), .val (.int p4), .val (.int p5), .val (.int p6), .val (.int xn), .val (.int c0), .val (.int d1), .unset, .unset, .unset, .unset, .unset, .unset, .unset, .unset, .unset, .unset, .unset] [(.int ((p4 &&& (2147483647 : Int32)) % (xn - (2 : Int32)))), (.int (1 : Int32))])) _
      refine XS.iadd X0.here hx rfl (hb hby at_40) rfl ?_
      exact k)
  obtain ⟨ee, e_ee, pre8⟩ : ∃ ee : Int32, ee = ((1 : Int32) + ((p4 &&& (2147483647 : Int32)) % (xn - (2 : Int32)))) ∧ own_Go p e below (s₁.setTop (entryFrame m #[(.int p1), (.int p2), (.int p3), (.int p4), (.int p5), (.int p6)] maxLocals)) (s₁.setTop (mkF m 41 #[.val (.int p1), .val (.int p2), .val (.int p3), .val (.int p4), .val (.int p5), .val (.int p6), .val (.int xn), .val (.int c0), .val (.int d1), .unset, .unset, .unset, .unset, .unset, .unset, .unset, .unset, .unset, .unset, .unset] [(.int ee)])) := ⟨_, rfl, pre7⟩
  have hee : 1 ≤ ee.toInt ∧ ee.toInt ≤ xn.toInt - 2 := by
    have r := own_remr (own_mask p4) (show 0 < (xn - (2 : Int32)).toInt by omega)
    rw [e_ee, own_1add (by omega) (by omega)]; omega
  clear e_ee
  have pre9 : own_Go p e below (s₁.setTop (entryFrame m #[(.int p1), (.int p2), (.int p3), (.int p4), (.int p5), (.int p6)] maxLocals)) (s₁.setTop (mkF m 47 #[.val (.int p1), .val (.int p2), .val (.int p3), .val (.int p4), .val (.int p5), .val (.int p6), .val (.int xn), .val (.int c0), .val (.int d1), .val (.int ee), .unset, .unset, .unset, .unset, .unset, .unset, .unset, .unset, .unset, .unset] [(.int d1), (.int ee)])) := fun t k => pre8 t (by
      show Steps p.tables e below (s₁.setTop (mkF m 41 #[.val (.int p1), .val (.int p2), .val (.int p3), .val (.int p4), .val (.int p5), .val (.int p6), .val (.int xn), .val (.int c0), .val (.int d1), .unset, .unset, .unset, .unset, .unset, .unset, .unset, .unset, .unset, .unset, .unset] [(.int ee)])) _
      refine XS.istore X0.here hx rfl (hb hby at_41) rfl (l' := #[.val (.int p1), .val (.int p2), .val (.int p3), .val (.int p4), .val (.int p5), .val (.int p6), .val (.int xn), .val (.int c0), .val (.int d1), .val (.int ee), .unset, .unset, .unset, .unset, .unset, .unset, .unset, .unset, .unset, .unset]) rfl ?_
      show Steps p.tables e below (s₁.setTop (mkF m 43 #[.val (.int p1), .val (.int p2), .val (.int p3), .val (.int p4), .val (.int p5), .val (.int p6), .val (.int xn), .val (.int c0), .val (.int d1), .val (.int ee), .unset, .unset, .unset, .unset, .unset, .unset, .unset, .unset, .unset, .unset] [])) _
      refine XS.iload X0.here hx rfl (hb hby at_43) rfl ?_
      show Steps p.tables e below (s₁.setTop (mkF m 45 #[.val (.int p1), .val (.int p2), .val (.int p3), .val (.int p4), .val (.int p5), .val (.int p6), .val (.int xn), .val (.int c0), .val (.int d1), .val (.int ee), .unset, .unset, .unset, .unset, .unset, .unset, .unset, .unset, .unset, .unset] [(.int ee)])) _
      refine XS.iload X0.here hx rfl (hb hby at_45) rfl ?_
      exact k)
  obtain ⟨xe, hxe, pre10⟩ : ∃ xe : Int32, (1 ≤ xe.toInt ∧ xe.toInt ≤ xn.toInt - 1 ∧ xe.toInt ≠ d1.toInt) ∧ own_Go p e below (s₁.setTop (entryFrame m #[(.int p1), (.int p2), (.int p3), (.int p4), (.int p5), (.int p6)] maxLocals)) (s₁.setTop (mkF m 56 #[.val (.int p1), .val (.int p2), .val (.int p3), .val (.int p4), .val (.int p5), .val (.int p6), .val (.int xn), .val (.int c0), .val (.int d1), .val (.int xe), .unset, .unset, .unset, .unset, .unset, .unset, .unset, .unset, .unset, .unset] [])) := by
    by_cases c47_11 : ee < d1
    · skip
      refine ⟨ee, ⟨by omega, by omega, by have q := Int32.lt_iff_toInt_lt.mp c47_11; omega⟩, fun t k => pre9 t ?_⟩
      show Steps p.tables e below (s₁.setTop (mkF m 47 #[.val (.int p1), .val (.int p2), .val (.int p3), .val (.int p4), .val (.int p5), .val (.int p6), .val (.int xn), .val (.int c0), .val (.int d1), .val (.int ee), .unset, .unset, .unset, .unset, .unset, .unset, .unset, .unset, .unset, .unset] [(.int d1), (.int ee)])) _
      refine XS.icmpYes X0.here hx rfl (pc0 := 47) (pc' := 56) rfl (hb hby at_47) rfl (XT.ii_lt_t c47_11) (by decide) (by decide) ?_
      exact k
    · skip
      refine ⟨(ee + (1 : Int32)), (by
          have q := mt Int32.lt_iff_toInt_lt.mpr c47_11
          rw [own_add1 (by omega) (by omega)]; omega), fun t k => pre9 t ?_⟩
      show Steps p.tables e below (s₁.setTop (mkF m 47 #[.val (.int p1), .val (.int p2), .val (.int p3), .val (.int p4), .val (.int p5), .val (.int p6), .val (.int xn), .val (.int c0), .val (.int d1), .val (.int ee), .unset, .unset, .unset, .unset, .unset, .unset, .unset, .unset, .unset, .unset] [(.int d1), (.int ee)])) _
      refine XS.icmpNo X0.here hx rfl (hb hby at_47) rfl (XT.ii_lt_f c47_11) ?_
      show Steps p.tables e below (s₁.setTop (mkF m 50 #[.val (.int p1), .val (.int p2), .val (.int p3), .val (.int p4), .val (.int p5), .val (.int p6), .val (.int xn), .val (.int c0), .val (.int d1), .val (.int ee), .unset, .unset, .unset, .unset, .unset, .unset, .unset, .unset, .unset, .unset] [])) _
      refine XS.iload X0.here hx rfl (hb hby at_50) rfl ?_
      show Steps p.tables e below (s₁.setTop (mkF m 52 #[.val (.int p1), .val (.int p2), .val (.int p3), .val (.int p4), .val (.int p5), .val (.int p6), .val (.int xn), .val (.int c0), .val (.int d1), .val (.int ee), .unset, .unset, .unset, .unset, .unset, .unset, .unset, .unset, .unset, .unset] [(.int ee)])) _
      refine XS.iconst X0.here hx rfl (hb hby at_52) ?_
      show Steps p.tables e below (s₁.setTop (mkF m 53 #[.val (.int p1), .val (.int p2), .val (.int p3), .val (.int p4), .val (.int p5), .val (.int p6), .val (.int xn), .val (.int c0), .val (.int d1), .val (.int ee), .unset, .unset, .unset, .unset, .unset, .unset, .unset, .unset, .unset, .unset] [(.int (1 : Int32)), (.int ee)])) _
      refine XS.iadd X0.here hx rfl (hb hby at_53) rfl ?_
      show Steps p.tables e below (s₁.setTop (mkF m 54 #[.val (.int p1), .val (.int p2), .val (.int p3), .val (.int p4), .val (.int p5), .val (.int p6), .val (.int xn), .val (.int c0), .val (.int d1), .val (.int ee), .unset, .unset, .unset, .unset, .unset, .unset, .unset, .unset, .unset, .unset] [(.int (ee + (1 : Int32)))])) _
      refine XS.istore X0.here hx rfl (hb hby at_54) rfl (l' := #[.val (.int p1), .val (.int p2), .val (.int p3), .val (.int p4), .val (.int p5), .val (.int p6), .val (.int xn), .val (.int c0), .val (.int d1), .val (.int (ee + (1 : Int32))), .unset, .unset, .unset, .unset, .unset, .unset, .unset, .unset, .unset, .unset]) rfl ?_
      exact k
  have pre12 : own_Go p e below (s₁.setTop (entryFrame m #[(.int p1), (.int p2), (.int p3), (.int p4), (.int p5), (.int p6)] maxLocals)) (s₁.setTop (mkF m 64 #[.val (.int p1), .val (.int p2), .val (.int p3), .val (.int p4), .val (.int p5), .val (.int p6), .val (.int xn), .val (.int c0), .val (.int d1), .val (.int xe), .unset, .unset, .unset, .unset, .unset, .unset, .unset, .unset, .unset, .unset] [(.int ((c0 + d1) % xn))])) := fun t k => pre10 t (by
      show Steps p.tables e below (s₁.setTop (mkF m 56 #[.val (.int p1), .val (.int p2), .val (.int p3), .val (.int p4), .val (.int p5), .val (.int p6), .val (.int xn), .val (.int c0), .val (.int d1), .val (.int xe), .unset, .unset, .unset, .unset, .unset, .unset, .unset, .unset, .unset, .unset] [])) _
      refine XS.iload X0.here hx rfl (hb hby at_56) rfl ?_
      show Steps p.tables e below (s₁.setTop (mkF m 58 #[.val (.int p1), .val (.int p2), .val (.int p3), .val (.int p4), .val (.int p5), .val (.int p6), .val (.int xn), .val (.int c0), .val (.int d1), .val (.int xe), .unset, .unset, .unset, .unset, .unset, .unset, .unset, .unset, .unset, .unset] [(.int c0)])) _
      refine XS.iload X0.here hx rfl (hb hby at_58) rfl ?_
      show Steps p.tables e below (s₁.setTop (mkF m 60 #[.val (.int p1), .val (.int p2), .val (.int p3), .val (.int p4), .val (.int p5), .val (.int p6), .val (.int xn), .val (.int c0), .val (.int d1), .val (.int xe), .unset, .unset, .unset, .unset, .unset, .unset, .unset, .unset, .unset, .unset] [(.int d1), (.int c0)])) _
      refine XS.iadd X0.here hx rfl (hb hby at_60) rfl ?_
      show Steps p.tables e below (s₁.setTop (mkF m 61 #[.val (.int p1), .val (.int p2), .val (.int p3), .val (.int p4), .val (.int p5), .val (.int p6), .val (.int xn), .val (.int c0), .val (.int d1), .val (.int xe), .unset, .unset, .unset, .unset, .unset, .unset, .unset, .unset, .unset, .unset] [(.int (c0 + d1))])) _
      refine XS.iload X0.here hx rfl (hb hby at_61) rfl ?_
      show Steps p.tables e below (s₁.setTop (mkF m 63 #[.val (.int p1), .val (.int p2), .val (.int p3), .val (.int p4), .val (.int p5), .val (.int p6), .val (.int xn), .val (.int c0), .val (.int d1), .val (.int xe), .unset, .unset, .unset, .unset, .unset, .unset, .unset, .unset, .unset, .unset] [(.int xn), (.int (c0 + d1))])) _
      refine iremM X0 hx rfl (hb hby at_63) rfl hxn ?_
      exact k)
  obtain ⟨c1, e_c1, pre13⟩ : ∃ c1 : Int32, c1 = ((c0 + d1) % xn) ∧ own_Go p e below (s₁.setTop (entryFrame m #[(.int p1), (.int p2), (.int p3), (.int p4), (.int p5), (.int p6)] maxLocals)) (s₁.setTop (mkF m 64 #[.val (.int p1), .val (.int p2), .val (.int p3), .val (.int p4), .val (.int p5), .val (.int p6), .val (.int xn), .val (.int c0), .val (.int d1), .val (.int xe), .unset, .unset, .unset, .unset, .unset, .unset, .unset, .unset, .unset, .unset] [(.int c1)])) := ⟨_, rfl, pre12⟩
  have hc1 := own_rems hc0.1 hc0.2 (show 0 ≤ d1.toInt by omega) (show d1.toInt < xn.toInt by omega) hn.2
  have hc1' := own_remr (x := c0 + d1) (y := xn) (by rw [XT.add32 ⟨by omega, by omega⟩]; omega) (by omega)
  rw [← e_c1] at hc1 hc1'
  clear e_c1
  have pre14 : own_Go p e below (s₁.setTop (entryFrame m #[(.int p1), (.int p2), (.int p3), (.int p4), (.int p5), (.int p6)] maxLocals)) (s₁.setTop (mkF m 74 #[.val (.int p1), .val (.int p2), .val (.int p3), .val (.int p4), .val (.int p5), .val (.int p6), .val (.int xn), .val (.int c0), .val (.int d1), .val (.int xe), .val (.int c1), .unset, .unset, .unset, .unset, .unset, .unset, .unset, .unset, .unset] [(.int ((c0 + xe) % xn))])) := fun t k => pre13 t (by
      show Steps p.tables e below (s₁.setTop (mkF m 64 #[.val (.int p1), .val (.int p2), .val (.int p3), .val (.int p4), .val (.int p5), .val (.int p6), .val (.int xn), .val (.int c0), .val (.int d1), .val (.int xe), .unset, .unset, .unset, .unset, .unset, .unset, .unset, .unset, .unset, .unset] [(.int c1)])) _
      refine XS.istore X0.here hx rfl (hb hby at_64) rfl (l' := #[.val (.int p1), .val (.int p2), .val (.int p3), .val (.int p4), .val (.int p5), .val (.int p6), .val (.int xn), .val (.int c0), .val (.int d1), .val (.int xe), .val (.int c1), .unset, .unset, .unset, .unset, .unset, .unset, .unset, .unset, .unset]) rfl ?_
      show Steps p.tables e below (s₁.setTop (mkF m 66 #[.val (.int p1), .val (.int p2), .val (.int p3), .val (.int p4), .val (.int p5), .val (.int p6), .val (.int xn), .val (.int c0), .val (.int d1), .val (.int xe), .val (.int c1), .unset, .unset, .unset, .unset, .unset, .unset, .unset, .unset, .unset] [])) _
      refine XS.iload X0.here hx rfl (hb hby at_66) rfl ?_
      show Steps p.tables e below (s₁.setTop (mkF m 68 #[.val (.int p1), .val (.int p2), .val (.int p3), .val (.int p4), .val (.int p5), .val (.int p6), .val (.int xn), .val (.int c0), .val (.int d1), .val (.int xe), .val (.int c1), .unset, .unset, .unset, .unset, .unset, .unset, .unset, .unset, .unset] [(.int c0)])) _
      refine XS.iload X0.here hx rfl (hb hby at_68) rfl ?_
      show Steps p.tables e below (s₁.setTop (mkF m 70 #[.val (.int p1), .val (.int p2), .val (.int p3), .val (.int p4), .val (.int p5), .val (.int p6), .val (.int xn), .val (.int c0), .val (.int d1), .val (.int xe), .val (.int c1), .unset, .unset, .unset, .unset, .unset, .unset, .unset, .unset, .unset] [(.int xe), (.int c0)])) _
      refine XS.iadd X0.here hx rfl (hb hby at_70) rfl ?_
      show Steps p.tables e below (s₁.setTop (mkF m 71 #[.val (.int p1), .val (.int p2), .val (.int p3), .val (.int p4), .val (.int p5), .val (.int p6), .val (.int xn), .val (.int c0), .val (.int d1), .val (.int xe), .val (.int c1), .unset, .unset, .unset, .unset, .unset, .unset, .unset, .unset, .unset] [(.int (c0 + xe))])) _
      refine XS.iload X0.here hx rfl (hb hby at_71) rfl ?_
      show Steps p.tables e below (s₁.setTop (mkF m 73 #[.val (.int p1), .val (.int p2), .val (.int p3), .val (.int p4), .val (.int p5), .val (.int p6), .val (.int xn), .val (.int c0), .val (.int d1), .val (.int xe), .val (.int c1), .unset, .unset, .unset, .unset, .unset, .unset, .unset, .unset, .unset] [(.int xn), (.int (c0 + xe))])) _
      refine iremM X0 hx rfl (hb hby at_73) rfl hxn ?_
      exact k)
  obtain ⟨c2, e_c2, pre15⟩ : ∃ c2 : Int32, c2 = ((c0 + xe) % xn) ∧ own_Go p e below (s₁.setTop (entryFrame m #[(.int p1), (.int p2), (.int p3), (.int p4), (.int p5), (.int p6)] maxLocals)) (s₁.setTop (mkF m 74 #[.val (.int p1), .val (.int p2), .val (.int p3), .val (.int p4), .val (.int p5), .val (.int p6), .val (.int xn), .val (.int c0), .val (.int d1), .val (.int xe), .val (.int c1), .unset, .unset, .unset, .unset, .unset, .unset, .unset, .unset, .unset] [(.int c2)])) := ⟨_, rfl, pre14⟩
  have hc2 := own_rems hc0.1 hc0.2 (show 0 ≤ xe.toInt by omega) (show xe.toInt < xn.toInt by omega) hn.2
  have hc2' := own_remr (x := c0 + xe) (y := xn) (by rw [XT.add32 ⟨by omega, by omega⟩]; omega) (by omega)
  rw [← e_c2] at hc2 hc2'
  clear e_c2
  have pre16 : own_Go p e below (s₁.setTop (entryFrame m #[(.int p1), (.int p2), (.int p3), (.int p4), (.int p5), (.int p6)] maxLocals)) (s₁.setTop (mkF m 84 #[.val (.int p1), .val (.int p2), .val (.int p3), .val (.int p4), .val (.int p5), .val (.int p6), .val (.int xn), .val (.int c0), .val (.int d1), .val (.int xe), .val (.int c1), .val (.int c2), .unset, .unset, .unset, .unset, .unset, .unset, .unset, .unset] [(.int ((p5 &&& (2147483647 : Int32)) % xn))])) := fun t k => pre15 t (by
      show Steps p.tables e below (s₁.setTop (mkF m 74 #[.val (.int p1), .val (.int p2), .val (.int p3), .val (.int p4), .val (.int p5), .val (.int p6), .val (.int xn), .val (.int c0), .val (.int d1), .val (.int xe), .val (.int c1), .unset, .unset, .unset, .unset, .unset, .unset, .unset, .unset, .unset] [(.int c2)])) _
      refine XS.istore X0.here hx rfl (hb hby at_74) rfl (l' := #[.val (.int p1), .val (.int p2), .val (.int p3), .val (.int p4), .val (.int p5), .val (.int p6), .val (.int xn), .val (.int c0), .val (.int d1), .val (.int xe), .val (.int c1), .val (.int c2), .unset, .unset, .unset, .unset, .unset, .unset, .unset, .unset]) rfl ?_
      show Steps p.tables e below (s₁.setTop (mkF m 76 #[.val (.int p1), .val (.int p2), .val (.int p3), .val (.int p4), .val (.int p5), .val (.int p6), .val (.int xn), .val (.int c0), .val (.int d1), .val (.int xe), .val (.int c1), .val (.int c2), .unset, .unset, .unset, .unset, .unset, .unset, .unset, .unset] [])) _
      refine XS.iload X0.here hx rfl (hb hby at_76) rfl ?_
      show Steps p.tables e below (s₁.setTop (mkF m 78 #[.val (.int p1), .val (.int p2), .val (.int p3), .val (.int p4), .val (.int p5), .val (.int p6), .val (.int xn), .val (.int c0), .val (.int d1), .val (.int xe), .val (.int c1), .val (.int c2), .unset, .unset, .unset, .unset, .unset, .unset, .unset, .unset] [(.int p5)])) _
      refine X0.ldcI hx hown (mvT hZ (hw _ (List.mem_of_getElem? (i := 0) rfl))) rfl (hb hby at_78) ?_
      show Steps p.tables e below (s₁.setTop (mkF m 80 #[.val (.int p1), .val (.int p2), .val (.int p3), .val (.int p4), .val (.int p5), .val (.int p6), .val (.int xn), .val (.int c0), .val (.int d1), .val (.int xe), .val (.int c1), .val (.int c2), .unset, .unset, .unset, .unset, .unset, .unset, .unset, .unset] [(.int (2147483647 : Int32)), (.int p5)])) _
      refine XS.iand X0.here hx rfl (hb hby at_80) rfl ?_
      show Steps p.tables e below (s₁.setTop (mkF m 81 #[.val (.int p1), .val (.int p2), .val (.int p3), .val (.int p4), .val (.int p5), .val (.int p6), .val (.int xn), .val (.int c0), .val (.int d1), .val (.int xe), .val (.int c1), .val (.int c2), .unset, .unset, .unset, .unset, .unset, .unset, .unset, .unset] [(.int (p5 &&& (2147483647 : Int32)))])) _
      refine XS.iload X0.here hx rfl (hb hby at_81) rfl ?_
      show Steps p.tables e below (s₁.setTop (mkF m 83 #[.val (.int p1), .val (.int p2), .val (.int p3), .val (.int p4), .val (.int p5), .val (.int p6), .val (.int xn), .val (.int c0), .val (.int d1), .val (.int xe), .val (.int c1), .val (.int c2), .unset, .unset, .unset, .unset, .unset, .unset, .unset, .unset] [(.int xn), (.int (p5 &&& (2147483647 : Int32)))])) _
      refine iremM X0 hx rfl (hb hby at_83) rfl hxn ?_
      exact k)
  obtain ⟨xv, e_xv, pre17⟩ : ∃ xv : Int32, xv = ((p5 &&& (2147483647 : Int32)) % xn) ∧ own_Go p e below (s₁.setTop (entryFrame m #[(.int p1), (.int p2), (.int p3), (.int p4), (.int p5), (.int p6)] maxLocals)) (s₁.setTop (mkF m 84 #[.val (.int p1), .val (.int p2), .val (.int p3), .val (.int p4), .val (.int p5), .val (.int p6), .val (.int xn), .val (.int c0), .val (.int d1), .val (.int xe), .val (.int c1), .val (.int c2), .unset, .unset, .unset, .unset, .unset, .unset, .unset, .unset] [(.int xv)])) := ⟨_, rfl, pre16⟩
  have hv : 0 ≤ xv.toInt ∧ xv.toInt < xn.toInt := by rw [e_xv]; exact own_remr (own_mask p5) (by omega)
  clear e_xv
  have pre18 : own_Go p e below (s₁.setTop (entryFrame m #[(.int p1), (.int p2), (.int p3), (.int p4), (.int p5), (.int p6)] maxLocals)) (s₁.setTop (mkF m 93 #[.val (.int p1), .val (.int p2), .val (.int p3), .val (.int p4), .val (.int p5), .val (.int p6), .val (.int xn), .val (.int c0), .val (.int d1), .val (.int xe), .val (.int c1), .val (.int c2), .val (.int xv), .unset, .unset, .unset, .unset, .unset, .unset, .unset] [(.int ((p6 &&& (2147483647 : Int32)) % (3 : Int32)))])) := fun t k => pre17 t (by
      show Steps p.tables e below (s₁.setTop (mkF m 84 #[.val (.int p1), .val (.int p2), .val (.int p3), .val (.int p4), .val (.int p5), .val (.int p6), .val (.int xn), .val (.int c0), .val (.int d1), .val (.int xe), .val (.int c1), .val (.int c2), .unset, .unset, .unset, .unset, .unset, .unset, .unset, .unset] [(.int xv)])) _
      refine XS.istore X0.here hx rfl (hb hby at_84) rfl (l' := #[.val (.int p1), .val (.int p2), .val (.int p3), .val (.int p4), .val (.int p5), .val (.int p6), .val (.int xn), .val (.int c0), .val (.int d1), .val (.int xe), .val (.int c1), .val (.int c2), .val (.int xv), .unset, .unset, .unset, .unset, .unset, .unset, .unset]) rfl ?_
      show Steps p.tables e below (s₁.setTop (mkF m 86 #[.val (.int p1), .val (.int p2), .val (.int p3), .val (.int p4), .val (.int p5), .val (.int p6), .val (.int xn), .val (.int c0), .val (.int d1), .val (.int xe), .val (.int c1), .val (.int c2), .val (.int xv), .unset, .unset, .unset, .unset, .unset, .unset, .unset] [])) _
      refine XS.iload X0.here hx rfl (hb hby at_86) rfl ?_
      show Steps p.tables e below (s₁.setTop (mkF m 88 #[.val (.int p1), .val (.int p2), .val (.int p3), .val (.int p4), .val (.int p5), .val (.int p6), .val (.int xn), .val (.int c0), .val (.int d1), .val (.int xe), .val (.int c1), .val (.int c2), .val (.int xv), .unset, .unset, .unset, .unset, .unset, .unset, .unset] [(.int p6)])) _
      refine X0.ldcI hx hown (mvT hZ (hw _ (List.mem_of_getElem? (i := 0) rfl))) rfl (hb hby at_88) ?_
      show Steps p.tables e below (s₁.setTop (mkF m 90 #[.val (.int p1), .val (.int p2), .val (.int p3), .val (.int p4), .val (.int p5), .val (.int p6), .val (.int xn), .val (.int c0), .val (.int d1), .val (.int xe), .val (.int c1), .val (.int c2), .val (.int xv), .unset, .unset, .unset, .unset, .unset, .unset, .unset] [(.int (2147483647 : Int32)), (.int p6)])) _
      refine XS.iand X0.here hx rfl (hb hby at_90) rfl ?_
      show Steps p.tables e below (s₁.setTop (mkF m 91 #[.val (.int p1), .val (.int p2), .val (.int p3), .val (.int p4), .val (.int p5), .val (.int p6), .val (.int xn), .val (.int c0), .val (.int d1), .val (.int xe), .val (.int c1), .val (.int c2), .val (.int xv), .unset, .unset, .unset, .unset, .unset, .unset, .unset] [(.int (p6 &&& (2147483647 : Int32)))])) _
      refine XS.iconst X0.here hx rfl (hb hby at_91) ?_
      show Steps p.tables e below (s₁.setTop (mkF m 92 #[.val (.int p1), .val (.int p2), .val (.int p3), .val (.int p4), .val (.int p5), .val (.int p6), .val (.int xn), .val (.int c0), .val (.int d1), .val (.int xe), .val (.int c1), .val (.int c2), .val (.int xv), .unset, .unset, .unset, .unset, .unset, .unset, .unset] [(.int (3 : Int32)), (.int (p6 &&& (2147483647 : Int32)))])) _
      refine iremM X0 hx rfl (hb hby at_92) rfl (by decide) ?_
      exact k)
  obtain ⟨xj, e_xj, pre19⟩ : ∃ xj : Int32, xj = ((p6 &&& (2147483647 : Int32)) % (3 : Int32)) ∧ own_Go p e below (s₁.setTop (entryFrame m #[(.int p1), (.int p2), (.int p3), (.int p4), (.int p5), (.int p6)] maxLocals)) (s₁.setTop (mkF m 93 #[.val (.int p1), .val (.int p2), .val (.int p3), .val (.int p4), .val (.int p5), .val (.int p6), .val (.int xn), .val (.int c0), .val (.int d1), .val (.int xe), .val (.int c1), .val (.int c2), .val (.int xv), .unset, .unset, .unset, .unset, .unset, .unset, .unset] [(.int xj)])) := ⟨_, rfl, pre18⟩
  have hj : 0 ≤ xj.toInt ∧ xj.toInt < (3 : Int32).toInt := by rw [e_xj]; exact own_remr (own_mask p6) (by decide)
  clear e_xj
  have hj3 := own_j3 hj.1 (by omega)
  have c0_0 : ¬ c0 < 0 := own_n0 hc0.1
  have c0_n : c0 < xn := own_lt hc0.2
  have c1_0 : ¬ c1 < 0 := own_n0 hc1'.1
  have c1_n : c1 < xn := own_lt hc1'.2
  have c2_0 : ¬ c2 < 0 := own_n0 hc2'.1
  have c2_n : c2 < xn := own_lt hc2'.2
  have xv_0 : ¬ xv < 0 := own_n0 hv.1
  have xv_n : xv < xn := own_lt hv.2
  have n01 : ¬ c0 = c1 := own_ne (by omega)
  have n02 : ¬ c0 = c2 := own_ne (by omega)
  have n12 : ¬ c1 = c2 := own_ne (by omega)
  have hb0 : (0 : Int32) < xn := own_lt (by omega)
  have hb1 : (1 : Int32) < xn := own_lt (by omega)
  have hb2 : (2 : Int32) < xn := own_lt (by omega)
  have pre20 : own_Go p e below (s₁.setTop (entryFrame m #[(.int p1), (.int p2), (.int p3), (.int p4), (.int p5), (.int p6)] maxLocals)) (s₁.setTop (mkF m 95 #[.val (.int p1), .val (.int p2), .val (.int p3), .val (.int p4), .val (.int p5), .val (.int p6), .val (.int xn), .val (.int c0), .val (.int d1), .val (.int xe), .val (.int c1), .val (.int c2), .val (.int xv), .val (.int xj), .unset, .unset, .unset, .unset, .unset, .unset] [])) := fun t k => pre19 t (by
      show Steps p.tables e below (s₁.setTop (mkF m 93 #[.val (.int p1), .val (.int p2), .val (.int p3), .val (.int p4), .val (.int p5), .val (.int p6), .val (.int xn), .val (.int c0), .val (.int d1), .val (.int xe), .val (.int c1), .val (.int c2), .val (.int xv), .unset, .unset, .unset, .unset, .unset, .unset, .unset] [(.int xj)])) _
      refine XS.istore X0.here hx rfl (hb hby at_93) rfl (l' := #[.val (.int p1), .val (.int p2), .val (.int p3), .val (.int p4), .val (.int p5), .val (.int p6), .val (.int xn), .val (.int c0), .val (.int d1), .val (.int xe), .val (.int c1), .val (.int c2), .val (.int xv), .val (.int xj), .unset, .unset, .unset, .unset, .unset, .unset]) rfl ?_
      exact k)
  obtain ⟨T21, h21, X21, e21, E21, A21, D21, -, st21⟩ := newO X0 hx hZ hown (hw _ (List.mem_of_getElem? (i := 1) rfl)) (hw _ (List.mem_of_getElem? (i := 2) rfl)) (hw _ (List.mem_of_getElem? (i := 3) rfl)) e0 (g := (mkF m 95 #[.val (.int p1), .val (.int p2), .val (.int p3), .val (.int p4), .val (.int p5), .val (.int p6), .val (.int xn), .val (.int c0), .val (.int d1), .val (.int xe), .val (.int c1), .val (.int c2), .val (.int xv), .val (.int xj), .unset, .unset, .unset, .unset, .unset, .unset] [])) rfl (hb hby at_95) (by decide) (by decide)
  obtain ⟨b21, g21⟩ : ∃ z, z = h0.size := ⟨_, rfl⟩
  rw [← g21] at A21 D21 st21
  have pre22 : own_Go p e below (s₁.setTop (entryFrame m #[(.int p1), (.int p2), (.int p3), (.int p4), (.int p5), (.int p6)] maxLocals)) (T21.setTop (mkF m 98 #[.val (.int p1), .val (.int p2), .val (.int p3), .val (.int p4), .val (.int p5), .val (.int p6), .val (.int xn), .val (.int c0), .val (.int d1), .val (.int xe), .val (.int c1), .val (.int c2), .val (.int xv), .val (.int xj), .unset, .unset, .unset, .unset, .unset, .unset] [(.ref b21)])) := fun t k => pre20 t (st21 t k)
  have K_23 := (Keep.refl h0 []).ext E21
  have sz_b21 : h0.size ≤ b21 := Nat.le_trans (Keep.refl h0 []).1 (Nat.le_of_eq g21.symm)
  have g_b21 : n0 ≤ b21 := Nat.le_trans Z0 sz_b21
  have F_members_21 : Fld Z h21 b21 "com/example/fickle/fickle/engine/LeapingChannels" "members" "[I" .null := D21 (Or.inr (hw _ (List.mem_of_getElem? (i := 12) rfl))) (ty := (.array .int)) (by decide)
  have F_positions_21 : Fld Z h21 b21 "com/example/fickle/fickle/engine/LeapingChannels" "positions" "[I" .null := D21 (Or.inr (hw _ (List.mem_of_getElem? (i := 14) rfl))) (ty := (.array .int)) (by decide)
  have F_held_21 : Fld Z h21 b21 "com/example/fickle/fickle/engine/LeapingChannels" "held" "[Z" .null := D21 (Or.inr (hw _ (List.mem_of_getElem? (i := 17) rfl))) (ty := (.array .boolean)) (by decide)
  have F_levels_21 : Fld Z h21 b21 "com/example/fickle/fickle/engine/LeapingChannels" "levels" "[B" .null := D21 (Or.inr (hw _ (List.mem_of_getElem? (i := 20) rfl))) (ty := (.array .byte)) (by decide)
  have F_copied_21 : Fld Z h21 b21 "com/example/fickle/fickle/engine/LeapingChannels" "copied" "[I" .null := D21 (Or.inr (hw _ (List.mem_of_getElem? (i := 22) rfl))) (ty := (.array .int)) (by decide)
  have F_first_21 : Fld Z h21 b21 "com/example/fickle/fickle/engine/LeapingChannels" "first" "[I" .null := D21 (Or.inr (hw _ (List.mem_of_getElem? (i := 24) rfl))) (ty := (.array .int)) (by decide)
  have F_size_21 : Fld Z h21 b21 "com/example/fickle/fickle/engine/LeapingChannels" "size" "I" (.int (0 : Int32)) := D21 (Or.inl (hw _ (List.mem_of_getElem? (i := 31) rfl))) (ty := .int) (by decide)
  have Zh1 : n0 ≤ h21.size := Nat.le_trans Z0 K_23.1
  have xn_0 : ¬ xn < 0 := own_n0 (by omega)
  have pre24 : own_Go p e below (s₁.setTop (entryFrame m #[(.int p1), (.int p2), (.int p3), (.int p4), (.int p5), (.int p6)] maxLocals)) (T21.setTop (mkF m 102 #[.val (.int p1), .val (.int p2), .val (.int p3), .val (.int p4), .val (.int p5), .val (.int p6), .val (.int xn), .val (.int c0), .val (.int d1), .val (.int xe), .val (.int c1), .val (.int c2), .val (.int xv), .val (.int xj), .unset, .unset, .unset, .unset, .unset, .unset] [(.int (3 : Int32)), (.int xn), (.ref b21), (.ref b21)])) := fun t k => pre22 t (by
      show Steps p.tables e below (T21.setTop (mkF m 98 #[.val (.int p1), .val (.int p2), .val (.int p3), .val (.int p4), .val (.int p5), .val (.int p6), .val (.int xn), .val (.int c0), .val (.int d1), .val (.int xe), .val (.int c1), .val (.int c2), .val (.int xv), .val (.int xj), .unset, .unset, .unset, .unset, .unset, .unset] [(.ref b21)])) _
      refine XS.dup X21.here hx rfl (hb hby at_98) rfl rfl ?_
      show Steps p.tables e below (T21.setTop (mkF m 99 #[.val (.int p1), .val (.int p2), .val (.int p3), .val (.int p4), .val (.int p5), .val (.int p6), .val (.int xn), .val (.int c0), .val (.int d1), .val (.int xe), .val (.int c1), .val (.int c2), .val (.int xv), .val (.int xj), .unset, .unset, .unset, .unset, .unset, .unset] [(.ref b21), (.ref b21)])) _
      refine XS.iload X21.here hx rfl (hb hby at_99) rfl ?_
      show Steps p.tables e below (T21.setTop (mkF m 101 #[.val (.int p1), .val (.int p2), .val (.int p3), .val (.int p4), .val (.int p5), .val (.int p6), .val (.int xn), .val (.int c0), .val (.int d1), .val (.int xe), .val (.int c1), .val (.int c2), .val (.int xv), .val (.int xj), .unset, .unset, .unset, .unset, .unset, .unset] [(.int xn), (.ref b21), (.ref b21)])) _
      refine XS.iconst X21.here hx rfl (hb hby at_101) ?_
      exact k)
  obtain ⟨_, _, ⟨T25, L25, k25, n25⟩, -, X25, ⟨Lc25, hQ25, l25, y25, z25⟩, st25⟩ := X21.specialBack hx (y := (⟨"com/example/fickle/fickle/engine/LeapingChannels", "<init>", "(II)V"⟩ : MethodName)) rfl hown (mvT hZ (hw _ (List.mem_of_getElem? (i := 4) rfl))) (mvT hZ (hw _ (List.mem_of_getElem? (i := 5) rfl))) (mvT hZ (hw _ (List.mem_of_getElem? (i := 6) rfl))) (by decide) (backOf (W := 1) (rm1 l Z a0 hw [] b21 xn h21 n0 Zh1 A21 F_members_21 F_positions_21 F_held_21 F_levels_21 F_copied_21 F_first_21 F_size_21 g_b21 xn_0 (own_cap (by omega) hn.2)) hZ (hw _ (List.mem_of_getElem? (i := 6) rfl)) (hw _ (List.mem_of_getElem? (i := 3) rfl)) (by decide) (by decide)) (g := (mkF m 102 #[.val (.int p1), .val (.int p2), .val (.int p3), .val (.int p4), .val (.int p5), .val (.int p6), .val (.int xn), .val (.int c0), .val (.int d1), .val (.int xe), .val (.int c1), .val (.int c2), .val (.int xv), .val (.int xj), .unset, .unset, .unset, .unset, .unset, .unset] [(.int (3 : Int32)), (.int xn), (.ref b21), (.ref b21)])) rfl (by rw [hml]; rfl) (Steps.refl _) (a := b21) (argsL := [(.int xn), (.int (3 : Int32))]) (rest := [(.ref b21)]) (lenOf pd_0_0 rfl) rfl (by show 2 * 0 + _ ≤ _; exact Nat.le_of_eq rfl) (hb hby at_102) (fun _ _ => ⟨rfl, e21, (by decide : 1 + 6 ≤ _), (by decide : 8 + 55 ≤ _)⟩)
  dsimp only [Pt.U, Pt.locs, Pt.cells, Pt.slots] at X25 l25 y25 z25 st25 hQ25
  subst l25 y25 z25
  obtain ⟨rfl, N25q, K25, am, ap, ah, sm, sp, sh, nmp, nmh, nph, Fm25, Fp25, Fh25, Fs25, Vm25, Vp25, Vh25⟩ := hQ25
  have N25 := Fr.app N0 N25q
  have pre26 : own_Go p e below (s₁.setTop (entryFrame m #[(.int p1), (.int p2), (.int p3), (.int p4), (.int p5), (.int p6)] maxLocals)) (T25.setTop (mkF m 105 #[.val (.int p1), .val (.int p2), .val (.int p3), .val (.int p4), .val (.int p5), .val (.int p6), .val (.int xn), .val (.int c0), .val (.int d1), .val (.int xe), .val (.int c1), .val (.int c2), .val (.int xv), .val (.int xj), .unset, .unset, .unset, .unset, .unset, .unset] [(.ref b21)])) := fun t k => pre24 t (st25.trans k)
  have sz_am : h0.size ≤ am := Nat.le_trans K_23.1 sm
  have g_am : n0 ≤ am := Nat.le_trans Z0 sz_am
  have ne_am : b21 ≠ am := Nat.ne_of_lt (Nat.lt_of_lt_of_le A21.lt sm)
  have sz_ap : h0.size ≤ ap := Nat.le_trans K_23.1 sp
  have g_ap : n0 ≤ ap := Nat.le_trans Z0 sz_ap
  have ne_ap : b21 ≠ ap := Nat.ne_of_lt (Nat.lt_of_lt_of_le A21.lt sp)
  have sz_ah : h0.size ≤ ah := Nat.le_trans K_23.1 sh
  have g_ah : n0 ≤ ah := Nat.le_trans Z0 sz_ah
  have ne_ah : b21 ≠ ah := Nat.ne_of_lt (Nat.lt_of_lt_of_le A21.lt sh)
  have Ex_27 := A21.keep K25
  have K_28 := K_23.trans K25 (allS (Or.inr sz_b21) all0)
  have Zh2 : n0 ≤ T25.heap.size := Nat.le_trans Z0 K_28.1
  have pre29 : own_Go p e below (s₁.setTop (entryFrame m #[(.int p1), (.int p2), (.int p3), (.int p4), (.int p5), (.int p6)] maxLocals)) (T25.setTop (mkF m 111 #[.val (.int p1), .val (.int p2), .val (.int p3), .val (.int p4), .val (.int p5), .val (.int p6), .val (.int xn), .val (.int c0), .val (.int d1), .val (.int xe), .val (.int c1), .val (.int c2), .val (.int xv), .val (.int xj), .val (.ref b21), .unset, .unset, .unset, .unset, .unset] [(.int c0), (.ref b21)])) := fun t k => pre26 t (by
      show Steps p.tables e below (T25.setTop (mkF m 105 #[.val (.int p1), .val (.int p2), .val (.int p3), .val (.int p4), .val (.int p5), .val (.int p6), .val (.int xn), .val (.int c0), .val (.int d1), .val (.int xe), .val (.int c1), .val (.int c2), .val (.int xv), .val (.int xj), .unset, .unset, .unset, .unset, .unset, .unset] [(.ref b21)])) _
      refine XS.astore X25.here hx rfl (hb hby at_105) rfl rfl (l' := #[.val (.int p1), .val (.int p2), .val (.int p3), .val (.int p4), .val (.int p5), .val (.int p6), .val (.int xn), .val (.int c0), .val (.int d1), .val (.int xe), .val (.int c1), .val (.int c2), .val (.int xv), .val (.int xj), .val (.ref b21), .unset, .unset, .unset, .unset, .unset]) rfl ?_
      show Steps p.tables e below (T25.setTop (mkF m 107 #[.val (.int p1), .val (.int p2), .val (.int p3), .val (.int p4), .val (.int p5), .val (.int p6), .val (.int xn), .val (.int c0), .val (.int d1), .val (.int xe), .val (.int c1), .val (.int c2), .val (.int xv), .val (.int xj), .val (.ref b21), .unset, .unset, .unset, .unset, .unset] [])) _
      refine XS.aload X25.here hx rfl (hb hby at_107) rfl rfl ?_
      show Steps p.tables e below (T25.setTop (mkF m 109 #[.val (.int p1), .val (.int p2), .val (.int p3), .val (.int p4), .val (.int p5), .val (.int p6), .val (.int xn), .val (.int c0), .val (.int d1), .val (.int xe), .val (.int c1), .val (.int c2), .val (.int xv), .val (.int xj), .val (.ref b21), .unset, .unset, .unset, .unset, .unset] [(.ref b21)])) _
      refine XS.iload X25.here hx rfl (hb hby at_109) rfl ?_
      exact k)
  obtain ⟨cq30, kq30, q30a, q30b, q30c⟩ := isOf hZ rfl Ex_27
  obtain ⟨_, _, ⟨T30, L30, k30, n30⟩, -, X30, ⟨Lc30, hQ30, l30, y30, z30⟩, st30⟩ := X25.virtualBack hx (y := (⟨"com/example/fickle/fickle/engine/LeapingChannels", "add", "(I)V"⟩ : MethodName)) (z := (⟨"com/example/fickle/fickle/engine/LeapingChannels", "add", "(I)V"⟩ : MethodName)) hown (mvT hZ (hw _ (List.mem_of_getElem? (i := 25) rfl))) (mvT hZ (hw _ (List.mem_of_getElem? (i := 26) rfl))) (notFace_of_selects (args := #[]) (mvT hZ (hw _ (List.mem_of_getElem? (i := 28) rfl)))) (mvT hZ (hw _ (List.mem_of_getElem? (i := 28) rfl))) (mvT hZ (hw _ (List.mem_of_getElem? (i := 27) rfl))) (by decide) (backOf (W := 0) (rm2 l Z a0 hw [] c0 b21 am ap ah (0 : Int32) xn _ _ _ (1 : Int32) T25.heap n0 Zh2 Fm25 Fp25 Fh25 Fs25 Vm25 Vp25 Vh25 Ex_27 g_b21 g_am g_ap g_ah ne_am ne_ap ne_ah nmp nmh nph (by decide) hb0 c0_0 c0_n (by decide)) hZ (hw _ (List.mem_of_getElem? (i := 29) rfl)) (hw _ (List.mem_of_getElem? (i := 3) rfl)) (by decide) (by decide)) q30a q30c (g := (mkF m 111 #[.val (.int p1), .val (.int p2), .val (.int p3), .val (.int p4), .val (.int p5), .val (.int p6), .val (.int xn), .val (.int c0), .val (.int d1), .val (.int xe), .val (.int c1), .val (.int c2), .val (.int xv), .val (.int xj), .val (.ref b21), .unset, .unset, .unset, .unset, .unset] [(.int c0), (.ref b21)])) rfl (by rw [hml]; rfl) (Steps.refl _) (argsL := [(.int c0)]) (rest := []) (lenOf pd_0_1 rfl) rfl (by show 2 * 0 + _ ≤ _; exact Nat.le_of_eq rfl) (hb hby at_111) (fun _ _ => ⟨rfl, rfl, (by decide : 7 + 0 ≤ _), (by decide : 63 + 0 ≤ _)⟩)
  dsimp only [Pt.U, Pt.locs, Pt.cells, Pt.slots] at X30 l30 y30 z30 st30 hQ30
  subst l30 y30 z30
  obtain ⟨rfl, N30q, K30, Fm30, Fp30, Fh30, Fs30, Vm30, Vp30, Vh30⟩ := hQ30
  have N30 := Fr.app N25 N30q
  have pre31 : own_Go p e below (s₁.setTop (entryFrame m #[(.int p1), (.int p2), (.int p3), (.int p4), (.int p5), (.int p6)] maxLocals)) (T30.setTop (mkF m 114 #[.val (.int p1), .val (.int p2), .val (.int p3), .val (.int p4), .val (.int p5), .val (.int p6), .val (.int xn), .val (.int c0), .val (.int d1), .val (.int xe), .val (.int c1), .val (.int c2), .val (.int xv), .val (.int xj), .val (.ref b21), .unset, .unset, .unset, .unset, .unset] [])) := fun t k => pre29 t (st30.trans k)
  have Ex_32 := Ex_27.keep K30
  have K_33 := K_28.trans K30 (allS (Or.inr sz_b21) (allS (Or.inr sz_am) (allS (Or.inr sz_ap) (allS (Or.inr sz_ah) all0))))
  have Zh3 : n0 ≤ T30.heap.size := Nat.le_trans Z0 K_33.1
  have pre34 : own_Go p e below (s₁.setTop (entryFrame m #[(.int p1), (.int p2), (.int p3), (.int p4), (.int p5), (.int p6)] maxLocals)) (T30.setTop (mkF m 118 #[.val (.int p1), .val (.int p2), .val (.int p3), .val (.int p4), .val (.int p5), .val (.int p6), .val (.int xn), .val (.int c0), .val (.int d1), .val (.int xe), .val (.int c1), .val (.int c2), .val (.int xv), .val (.int xj), .val (.ref b21), .unset, .unset, .unset, .unset, .unset] [(.int c1), (.ref b21)])) := fun t k => pre31 t (by
      show Steps p.tables e below (T30.setTop (mkF m 114 #[.val (.int p1), .val (.int p2), .val (.int p3), .val (.int p4), .val (.int p5), .val (.int p6), .val (.int xn), .val (.int c0), .val (.int d1), .val (.int xe), .val (.int c1), .val (.int c2), .val (.int xv), .val (.int xj), .val (.ref b21), .unset, .unset, .unset, .unset, .unset] [])) _
      refine XS.aload X30.here hx rfl (hb hby at_114) rfl rfl ?_
      show Steps p.tables e below (T30.setTop (mkF m 116 #[.val (.int p1), .val (.int p2), .val (.int p3), .val (.int p4), .val (.int p5), .val (.int p6), .val (.int xn), .val (.int c0), .val (.int d1), .val (.int xe), .val (.int c1), .val (.int c2), .val (.int xv), .val (.int xj), .val (.ref b21), .unset, .unset, .unset, .unset, .unset] [(.ref b21)])) _
      refine XS.iload X30.here hx rfl (hb hby at_116) rfl ?_
      exact k)
  obtain ⟨cq35, kq35, q35a, q35b, q35c⟩ := isOf hZ rfl Ex_32
  obtain ⟨_, _, ⟨T35, L35, k35, n35⟩, -, X35, ⟨Lc35, hQ35, l35, y35, z35⟩, st35⟩ := X30.virtualBack hx (y := (⟨"com/example/fickle/fickle/engine/LeapingChannels", "add", "(I)V"⟩ : MethodName)) (z := (⟨"com/example/fickle/fickle/engine/LeapingChannels", "add", "(I)V"⟩ : MethodName)) hown (mvT hZ (hw _ (List.mem_of_getElem? (i := 25) rfl))) (mvT hZ (hw _ (List.mem_of_getElem? (i := 26) rfl))) (notFace_of_selects (args := #[]) (mvT hZ (hw _ (List.mem_of_getElem? (i := 28) rfl)))) (mvT hZ (hw _ (List.mem_of_getElem? (i := 28) rfl))) (mvT hZ (hw _ (List.mem_of_getElem? (i := 27) rfl))) (by decide) (backOf (W := 0) (rm2 l Z a0 hw [] c1 b21 am ap ah (1 : Int32) xn _ _ _ (2 : Int32) T30.heap n0 Zh3 Fm30 Fp30 Fh30 Fs30 Vm30 Vp30 Vh30 Ex_32 g_b21 g_am g_ap g_ah ne_am ne_ap ne_ah nmp nmh nph (by decide) hb1 c1_0 c1_n (by decide)) hZ (hw _ (List.mem_of_getElem? (i := 29) rfl)) (hw _ (List.mem_of_getElem? (i := 3) rfl)) (by decide) (by decide)) q35a q35c (g := (mkF m 118 #[.val (.int p1), .val (.int p2), .val (.int p3), .val (.int p4), .val (.int p5), .val (.int p6), .val (.int xn), .val (.int c0), .val (.int d1), .val (.int xe), .val (.int c1), .val (.int c2), .val (.int xv), .val (.int xj), .val (.ref b21), .unset, .unset, .unset, .unset, .unset] [(.int c1), (.ref b21)])) rfl (by rw [hml]; rfl) (Steps.refl _) (argsL := [(.int c1)]) (rest := []) (lenOf pd_0_1 rfl) rfl (by show 2 * 0 + _ ≤ _; exact Nat.le_of_eq rfl) (hb hby at_118) (fun _ _ => ⟨rfl, rfl, (by decide : 7 + 0 ≤ _), (by decide : 63 + 0 ≤ _)⟩)
  dsimp only [Pt.U, Pt.locs, Pt.cells, Pt.slots] at X35 l35 y35 z35 st35 hQ35
  subst l35 y35 z35
  obtain ⟨rfl, N35q, K35, Fm35, Fp35, Fh35, Fs35, Vm35, Vp35, Vh35⟩ := hQ35
  have N35 := Fr.app N30 N35q
  have pre36 : own_Go p e below (s₁.setTop (entryFrame m #[(.int p1), (.int p2), (.int p3), (.int p4), (.int p5), (.int p6)] maxLocals)) (T35.setTop (mkF m 121 #[.val (.int p1), .val (.int p2), .val (.int p3), .val (.int p4), .val (.int p5), .val (.int p6), .val (.int xn), .val (.int c0), .val (.int d1), .val (.int xe), .val (.int c1), .val (.int c2), .val (.int xv), .val (.int xj), .val (.ref b21), .unset, .unset, .unset, .unset, .unset] [])) := fun t k => pre34 t (st35.trans k)
  have Ex_37 := Ex_32.keep K35
  have K_38 := K_33.trans K35 (allS (Or.inr sz_b21) (allS (Or.inr sz_am) (allS (Or.inr sz_ap) (allS (Or.inr sz_ah) all0))))
  have Zh4 : n0 ≤ T35.heap.size := Nat.le_trans Z0 K_38.1
  have pre39 : own_Go p e below (s₁.setTop (entryFrame m #[(.int p1), (.int p2), (.int p3), (.int p4), (.int p5), (.int p6)] maxLocals)) (T35.setTop (mkF m 125 #[.val (.int p1), .val (.int p2), .val (.int p3), .val (.int p4), .val (.int p5), .val (.int p6), .val (.int xn), .val (.int c0), .val (.int d1), .val (.int xe), .val (.int c1), .val (.int c2), .val (.int xv), .val (.int xj), .val (.ref b21), .unset, .unset, .unset, .unset, .unset] [(.int c2), (.ref b21)])) := fun t k => pre36 t (by
      show Steps p.tables e below (T35.setTop (mkF m 121 #[.val (.int p1), .val (.int p2), .val (.int p3), .val (.int p4), .val (.int p5), .val (.int p6), .val (.int xn), .val (.int c0), .val (.int d1), .val (.int xe), .val (.int c1), .val (.int c2), .val (.int xv), .val (.int xj), .val (.ref b21), .unset, .unset, .unset, .unset, .unset] [])) _
      refine XS.aload X35.here hx rfl (hb hby at_121) rfl rfl ?_
      show Steps p.tables e below (T35.setTop (mkF m 123 #[.val (.int p1), .val (.int p2), .val (.int p3), .val (.int p4), .val (.int p5), .val (.int p6), .val (.int xn), .val (.int c0), .val (.int d1), .val (.int xe), .val (.int c1), .val (.int c2), .val (.int xv), .val (.int xj), .val (.ref b21), .unset, .unset, .unset, .unset, .unset] [(.ref b21)])) _
      refine XS.iload X35.here hx rfl (hb hby at_123) rfl ?_
      exact k)
  obtain ⟨cq40, kq40, q40a, q40b, q40c⟩ := isOf hZ rfl Ex_37
  obtain ⟨_, _, ⟨T40, L40, k40, n40⟩, -, X40, ⟨Lc40, hQ40, l40, y40, z40⟩, st40⟩ := X35.virtualBack hx (y := (⟨"com/example/fickle/fickle/engine/LeapingChannels", "add", "(I)V"⟩ : MethodName)) (z := (⟨"com/example/fickle/fickle/engine/LeapingChannels", "add", "(I)V"⟩ : MethodName)) hown (mvT hZ (hw _ (List.mem_of_getElem? (i := 25) rfl))) (mvT hZ (hw _ (List.mem_of_getElem? (i := 26) rfl))) (notFace_of_selects (args := #[]) (mvT hZ (hw _ (List.mem_of_getElem? (i := 28) rfl)))) (mvT hZ (hw _ (List.mem_of_getElem? (i := 28) rfl))) (mvT hZ (hw _ (List.mem_of_getElem? (i := 27) rfl))) (by decide) (backOf (W := 0) (rm2 l Z a0 hw [] c2 b21 am ap ah (2 : Int32) xn _ _ _ (3 : Int32) T35.heap n0 Zh4 Fm35 Fp35 Fh35 Fs35 Vm35 Vp35 Vh35 Ex_37 g_b21 g_am g_ap g_ah ne_am ne_ap ne_ah nmp nmh nph (by decide) hb2 c2_0 c2_n (by decide)) hZ (hw _ (List.mem_of_getElem? (i := 29) rfl)) (hw _ (List.mem_of_getElem? (i := 3) rfl)) (by decide) (by decide)) q40a q40c (g := (mkF m 125 #[.val (.int p1), .val (.int p2), .val (.int p3), .val (.int p4), .val (.int p5), .val (.int p6), .val (.int xn), .val (.int c0), .val (.int d1), .val (.int xe), .val (.int c1), .val (.int c2), .val (.int xv), .val (.int xj), .val (.ref b21), .unset, .unset, .unset, .unset, .unset] [(.int c2), (.ref b21)])) rfl (by rw [hml]; rfl) (Steps.refl _) (argsL := [(.int c2)]) (rest := []) (lenOf pd_0_1 rfl) rfl (by show 2 * 0 + _ ≤ _; exact Nat.le_of_eq rfl) (hb hby at_125) (fun _ _ => ⟨rfl, rfl, (by decide : 7 + 0 ≤ _), (by decide : 63 + 0 ≤ _)⟩)
  dsimp only [Pt.U, Pt.locs, Pt.cells, Pt.slots] at X40 l40 y40 z40 st40 hQ40
  subst l40 y40 z40
  obtain ⟨rfl, N40q, K40, Fm40, Fp40, Fh40, Fs40, Vm40, Vp40, Vh40⟩ := hQ40
  have N40 := Fr.app N35 N40q
  have pre41 : own_Go p e below (s₁.setTop (entryFrame m #[(.int p1), (.int p2), (.int p3), (.int p4), (.int p5), (.int p6)] maxLocals)) (T40.setTop (mkF m 128 #[.val (.int p1), .val (.int p2), .val (.int p3), .val (.int p4), .val (.int p5), .val (.int p6), .val (.int xn), .val (.int c0), .val (.int d1), .val (.int xe), .val (.int c1), .val (.int c2), .val (.int xv), .val (.int xj), .val (.ref b21), .unset, .unset, .unset, .unset, .unset] [])) := fun t k => pre39 t (st40.trans k)
  have Ex_42 := Ex_37.keep K40
  have K_43 := K_38.trans K40 (allS (Or.inr sz_b21) (allS (Or.inr sz_am) (allS (Or.inr sz_ap) (allS (Or.inr sz_ah) all0))))
  have Zh5 : n0 ≤ T40.heap.size := Nat.le_trans Z0 K_43.1
  have pre44 : own_Go p e below (s₁.setTop (entryFrame m #[(.int p1), (.int p2), (.int p3), (.int p4), (.int p5), (.int p6)] maxLocals)) (T40.setTop (mkF m 130 #[.val (.int p1), .val (.int p2), .val (.int p3), .val (.int p4), .val (.int p5), .val (.int p6), .val (.int xn), .val (.int c0), .val (.int d1), .val (.int xe), .val (.int c1), .val (.int c2), .val (.int xv), .val (.int xj), .val (.ref b21), .unset, .unset, .unset, .unset, .unset] [(.ref b21)])) := fun t k => pre41 t (by
      show Steps p.tables e below (T40.setTop (mkF m 128 #[.val (.int p1), .val (.int p2), .val (.int p3), .val (.int p4), .val (.int p5), .val (.int p6), .val (.int xn), .val (.int c0), .val (.int d1), .val (.int xe), .val (.int c1), .val (.int c2), .val (.int xv), .val (.int xj), .val (.ref b21), .unset, .unset, .unset, .unset, .unset] [])) _
      refine XS.aload X40.here hx rfl (hb hby at_128) rfl rfl ?_
      exact k)
  obtain ⟨cq45, kq45, q45a, q45b, q45c⟩ := isOf hZ rfl Ex_42
  obtain ⟨_, _, ⟨T45, L45, k45, n45⟩, -, X45, ⟨Lc45, hQ45, l45, y45, z45⟩, st45⟩ := X40.virtualBack hx (y := (⟨"com/example/fickle/fickle/engine/LeapingChannels", "size", "()I"⟩ : MethodName)) (z := (⟨"com/example/fickle/fickle/engine/LeapingChannels", "size", "()I"⟩ : MethodName)) hown (mvT hZ (hw _ (List.mem_of_getElem? (i := 32) rfl))) (mvT hZ (hw _ (List.mem_of_getElem? (i := 33) rfl))) (notFace_of_selects (args := #[]) (mvT hZ (hw _ (List.mem_of_getElem? (i := 35) rfl)))) (mvT hZ (hw _ (List.mem_of_getElem? (i := 35) rfl))) (mvT hZ (hw _ (List.mem_of_getElem? (i := 34) rfl))) (by decide) (backOf (W := 0) (rm3 l Z a0 hw [] b21 (3 : Int32) T40.heap n0 Zh5 Fs40) hZ (hw _ (List.mem_of_getElem? (i := 36) rfl)) (hw _ (List.mem_of_getElem? (i := 3) rfl)) (by decide) (by decide)) q45a q45c (g := (mkF m 130 #[.val (.int p1), .val (.int p2), .val (.int p3), .val (.int p4), .val (.int p5), .val (.int p6), .val (.int xn), .val (.int c0), .val (.int d1), .val (.int xe), .val (.int c1), .val (.int c2), .val (.int xv), .val (.int xj), .val (.ref b21), .unset, .unset, .unset, .unset, .unset] [(.ref b21)])) rfl (by rw [hml]; rfl) (Steps.refl _) (argsL := []) (rest := []) (lenOf pd_0_2 rfl) rfl (by show 2 * 0 + _ ≤ _; exact Nat.le_of_eq rfl) (hb hby at_130) (fun _ _ => ⟨rfl, rfl, (by decide : 7 + 0 ≤ _), (by decide : 63 + 0 ≤ _)⟩)
  dsimp only [Pt.U, Pt.locs, Pt.cells, Pt.slots] at X45 l45 y45 z45 st45 hQ45
  subst l45 y45 z45
  obtain ⟨rfl, N45q, hh45⟩ := hQ45
  have N45 := Fr.app N40 N45q
  have pre46 : own_Go p e below (s₁.setTop (entryFrame m #[(.int p1), (.int p2), (.int p3), (.int p4), (.int p5), (.int p6)] maxLocals)) (T45.setTop (mkF m 133 #[.val (.int p1), .val (.int p2), .val (.int p3), .val (.int p4), .val (.int p5), .val (.int p6), .val (.int xn), .val (.int c0), .val (.int d1), .val (.int xe), .val (.int c1), .val (.int c2), .val (.int xv), .val (.int xj), .val (.ref b21), .unset, .unset, .unset, .unset, .unset] [(.int (3 : Int32))])) := fun t k => pre44 t (st45.trans k)
  have F_47 := Fm40
  rw [← hh45] at F_47
  have F_48 := Fp40
  rw [← hh45] at F_48
  have F_49 := Fh40
  rw [← hh45] at F_49
  have F_50 := Fs40
  rw [← hh45] at F_50
  have Ex_51 := Ex_42
  rw [← hh45] at Ex_51
  have V_52 := Vm40
  rw [← hh45] at V_52
  have V_53 := Vp40
  rw [← hh45] at V_53
  have V_54 := Vh40
  rw [← hh45] at V_54
  have K_55 := K_43
  rw [← hh45] at K_55
  have Zh6 : n0 ≤ T45.heap.size := Nat.le_trans Z0 K_55.1
  have pre56 : own_Go p e below (s₁.setTop (entryFrame m #[(.int p1), (.int p2), (.int p3), (.int p4), (.int p5), (.int p6)] maxLocals)) (T45.setTop (mkF m 152 #[.val (.int p1), .val (.int p2), .val (.int p3), .val (.int p4), .val (.int p5), .val (.int p6), .val (.int xn), .val (.int c0), .val (.int d1), .val (.int xe), .val (.int c1), .val (.int c2), .val (.int xv), .val (.int xj), .val (.ref b21), .val (.int (1 : Int32)), .unset, .unset, .unset, .unset] [(.int (0 : Int32)), (.ref b21)])) := fun t k => pre46 t (by
      show Steps p.tables e below (T45.setTop (mkF m 133 #[.val (.int p1), .val (.int p2), .val (.int p3), .val (.int p4), .val (.int p5), .val (.int p6), .val (.int xn), .val (.int c0), .val (.int d1), .val (.int xe), .val (.int c1), .val (.int c2), .val (.int xv), .val (.int xj), .val (.ref b21), .unset, .unset, .unset, .unset, .unset] [(.int (3 : Int32))])) _
      refine XS.iconst X45.here hx rfl (hb hby at_133) ?_
      show Steps p.tables e below (T45.setTop (mkF m 134 #[.val (.int p1), .val (.int p2), .val (.int p3), .val (.int p4), .val (.int p5), .val (.int p6), .val (.int xn), .val (.int c0), .val (.int d1), .val (.int xe), .val (.int c1), .val (.int c2), .val (.int xv), .val (.int xj), .val (.ref b21), .unset, .unset, .unset, .unset, .unset] [(.int (3 : Int32)), (.int (3 : Int32))])) _
      refine XS.icmpNo X45.here hx rfl (hb hby at_134) rfl (XT.ii_ne_f (by decide)) ?_
      show Steps p.tables e below (T45.setTop (mkF m 137 #[.val (.int p1), .val (.int p2), .val (.int p3), .val (.int p4), .val (.int p5), .val (.int p6), .val (.int xn), .val (.int c0), .val (.int d1), .val (.int xe), .val (.int c1), .val (.int c2), .val (.int xv), .val (.int xj), .val (.ref b21), .unset, .unset, .unset, .unset, .unset] [])) _
      refine XS.iconst X45.here hx rfl (hb hby at_137) ?_
      show Steps p.tables e below (T45.setTop (mkF m 138 #[.val (.int p1), .val (.int p2), .val (.int p3), .val (.int p4), .val (.int p5), .val (.int p6), .val (.int xn), .val (.int c0), .val (.int d1), .val (.int xe), .val (.int c1), .val (.int c2), .val (.int xv), .val (.int xj), .val (.ref b21), .unset, .unset, .unset, .unset, .unset] [(.int (1 : Int32))])) _
      refine XS.goto X45.here hx rfl (pc0 := 138) (pc' := 142) rfl (hb hby at_138) (by decide) (by decide) ?_
      show Steps p.tables e below (T45.setTop (mkF m 142 #[.val (.int p1), .val (.int p2), .val (.int p3), .val (.int p4), .val (.int p5), .val (.int p6), .val (.int xn), .val (.int c0), .val (.int d1), .val (.int xe), .val (.int c1), .val (.int c2), .val (.int xv), .val (.int xj), .val (.ref b21), .unset, .unset, .unset, .unset, .unset] [(.int (1 : Int32))])) _
      refine XS.istore X45.here hx rfl (hb hby at_142) rfl (l' := #[.val (.int p1), .val (.int p2), .val (.int p3), .val (.int p4), .val (.int p5), .val (.int p6), .val (.int xn), .val (.int c0), .val (.int d1), .val (.int xe), .val (.int c1), .val (.int c2), .val (.int xv), .val (.int xj), .val (.ref b21), .val (.int (1 : Int32)), .unset, .unset, .unset, .unset]) rfl ?_
      show Steps p.tables e below (T45.setTop (mkF m 144 #[.val (.int p1), .val (.int p2), .val (.int p3), .val (.int p4), .val (.int p5), .val (.int p6), .val (.int xn), .val (.int c0), .val (.int d1), .val (.int xe), .val (.int c1), .val (.int c2), .val (.int xv), .val (.int xj), .val (.ref b21), .val (.int (1 : Int32)), .unset, .unset, .unset, .unset] [])) _
      refine XS.iload X45.here hx rfl (hb hby at_144) rfl ?_
      show Steps p.tables e below (T45.setTop (mkF m 146 #[.val (.int p1), .val (.int p2), .val (.int p3), .val (.int p4), .val (.int p5), .val (.int p6), .val (.int xn), .val (.int c0), .val (.int d1), .val (.int xe), .val (.int c1), .val (.int c2), .val (.int xv), .val (.int xj), .val (.ref b21), .val (.int (1 : Int32)), .unset, .unset, .unset, .unset] [(.int (1 : Int32))])) _
      refine XS.ifNo X45.here hx rfl (hb hby at_146) rfl (XT.i0_eq_f (by decide)) ?_
      show Steps p.tables e below (T45.setTop (mkF m 149 #[.val (.int p1), .val (.int p2), .val (.int p3), .val (.int p4), .val (.int p5), .val (.int p6), .val (.int xn), .val (.int c0), .val (.int d1), .val (.int xe), .val (.int c1), .val (.int c2), .val (.int xv), .val (.int xj), .val (.ref b21), .val (.int (1 : Int32)), .unset, .unset, .unset, .unset] [])) _
      refine XS.aload X45.here hx rfl (hb hby at_149) rfl rfl ?_
      show Steps p.tables e below (T45.setTop (mkF m 151 #[.val (.int p1), .val (.int p2), .val (.int p3), .val (.int p4), .val (.int p5), .val (.int p6), .val (.int xn), .val (.int c0), .val (.int d1), .val (.int xe), .val (.int c1), .val (.int c2), .val (.int xv), .val (.int xj), .val (.ref b21), .val (.int (1 : Int32)), .unset, .unset, .unset, .unset] [(.ref b21)])) _
      refine XS.iconst X45.here hx rfl (hb hby at_151) ?_
      exact k)
  obtain ⟨cq57, kq57, q57a, q57b, q57c⟩ := isOf hZ rfl Ex_51
  obtain ⟨_, _, ⟨T57, L57, k57, n57⟩, -, X57, ⟨Lc57, hQ57, l57, y57, z57⟩, st57⟩ := X45.virtualBack hx (y := (⟨"com/example/fickle/fickle/engine/LeapingChannels", "get", "(I)I"⟩ : MethodName)) (z := (⟨"com/example/fickle/fickle/engine/LeapingChannels", "get", "(I)I"⟩ : MethodName)) hown (mvT hZ (hw _ (List.mem_of_getElem? (i := 37) rfl))) (mvT hZ (hw _ (List.mem_of_getElem? (i := 38) rfl))) (notFace_of_selects (args := #[]) (mvT hZ (hw _ (List.mem_of_getElem? (i := 40) rfl)))) (mvT hZ (hw _ (List.mem_of_getElem? (i := 40) rfl))) (mvT hZ (hw _ (List.mem_of_getElem? (i := 39) rfl))) (by decide) (backOf (W := 0) (rm4 l Z a0 hw [] b21 am (0 : Int32) xn c0 _ T45.heap n0 Zh6 F_47 V_52 (by decide) hb0 ((own_upd_miss _ _ (by decide)).trans ((own_upd_miss _ _ (by decide)).trans (own_upd_hit _ _ rfl)))) hZ (hw _ (List.mem_of_getElem? (i := 41) rfl)) (hw _ (List.mem_of_getElem? (i := 3) rfl)) (by decide) (by decide)) q57a q57c (g := (mkF m 152 #[.val (.int p1), .val (.int p2), .val (.int p3), .val (.int p4), .val (.int p5), .val (.int p6), .val (.int xn), .val (.int c0), .val (.int d1), .val (.int xe), .val (.int c1), .val (.int c2), .val (.int xv), .val (.int xj), .val (.ref b21), .val (.int (1 : Int32)), .unset, .unset, .unset, .unset] [(.int (0 : Int32)), (.ref b21)])) rfl (by rw [hml]; rfl) (Steps.refl _) (argsL := [(.int (0 : Int32))]) (rest := []) (lenOf pd_0_3 rfl) rfl (by show 2 * 0 + _ ≤ _; exact Nat.le_of_eq rfl) (hb hby at_152) (fun _ _ => ⟨rfl, rfl, (by decide : 7 + 0 ≤ _), (by decide : 63 + 0 ≤ _)⟩)
  dsimp only [Pt.U, Pt.locs, Pt.cells, Pt.slots] at X57 l57 y57 z57 st57 hQ57
  subst l57 y57 z57
  obtain ⟨rfl, N57q, hh57⟩ := hQ57
  have N57 := Fr.app N45 N57q
  have pre58 : own_Go p e below (s₁.setTop (entryFrame m #[(.int p1), (.int p2), (.int p3), (.int p4), (.int p5), (.int p6)] maxLocals)) (T57.setTop (mkF m 155 #[.val (.int p1), .val (.int p2), .val (.int p3), .val (.int p4), .val (.int p5), .val (.int p6), .val (.int xn), .val (.int c0), .val (.int d1), .val (.int xe), .val (.int c1), .val (.int c2), .val (.int xv), .val (.int xj), .val (.ref b21), .val (.int (1 : Int32)), .unset, .unset, .unset, .unset] [(.int c0)])) := fun t k => pre56 t (st57.trans k)
  have F_59 := F_47
  rw [← hh57] at F_59
  have F_60 := F_48
  rw [← hh57] at F_60
  have F_61 := F_49
  rw [← hh57] at F_61
  have F_62 := F_50
  rw [← hh57] at F_62
  have Ex_63 := Ex_51
  rw [← hh57] at Ex_63
  have V_64 := V_52
  rw [← hh57] at V_64
  have V_65 := V_53
  rw [← hh57] at V_65
  have V_66 := V_54
  rw [← hh57] at V_66
  have K_67 := K_55
  rw [← hh57] at K_67
  have Zh7 : n0 ≤ T57.heap.size := Nat.le_trans Z0 K_67.1
  have pre68 : own_Go p e below (s₁.setTop (entryFrame m #[(.int p1), (.int p2), (.int p3), (.int p4), (.int p5), (.int p6)] maxLocals)) (T57.setTop (mkF m 163 #[.val (.int p1), .val (.int p2), .val (.int p3), .val (.int p4), .val (.int p5), .val (.int p6), .val (.int xn), .val (.int c0), .val (.int d1), .val (.int xe), .val (.int c1), .val (.int c2), .val (.int xv), .val (.int xj), .val (.ref b21), .val (.int (1 : Int32)), .unset, .unset, .unset, .unset] [(.int (1 : Int32)), (.ref b21)])) := fun t k => pre58 t (by
      show Steps p.tables e below (T57.setTop (mkF m 155 #[.val (.int p1), .val (.int p2), .val (.int p3), .val (.int p4), .val (.int p5), .val (.int p6), .val (.int xn), .val (.int c0), .val (.int d1), .val (.int xe), .val (.int c1), .val (.int c2), .val (.int xv), .val (.int xj), .val (.ref b21), .val (.int (1 : Int32)), .unset, .unset, .unset, .unset] [(.int c0)])) _
      refine XS.iload X57.here hx rfl (hb hby at_155) rfl ?_
      show Steps p.tables e below (T57.setTop (mkF m 157 #[.val (.int p1), .val (.int p2), .val (.int p3), .val (.int p4), .val (.int p5), .val (.int p6), .val (.int xn), .val (.int c0), .val (.int d1), .val (.int xe), .val (.int c1), .val (.int c2), .val (.int xv), .val (.int xj), .val (.ref b21), .val (.int (1 : Int32)), .unset, .unset, .unset, .unset] [(.int c0), (.int c0)])) _
      refine XS.icmpNo X57.here hx rfl (hb hby at_157) rfl (XT.ii_ne_f rfl) ?_
      show Steps p.tables e below (T57.setTop (mkF m 160 #[.val (.int p1), .val (.int p2), .val (.int p3), .val (.int p4), .val (.int p5), .val (.int p6), .val (.int xn), .val (.int c0), .val (.int d1), .val (.int xe), .val (.int c1), .val (.int c2), .val (.int xv), .val (.int xj), .val (.ref b21), .val (.int (1 : Int32)), .unset, .unset, .unset, .unset] [])) _
      refine XS.aload X57.here hx rfl (hb hby at_160) rfl rfl ?_
      show Steps p.tables e below (T57.setTop (mkF m 162 #[.val (.int p1), .val (.int p2), .val (.int p3), .val (.int p4), .val (.int p5), .val (.int p6), .val (.int xn), .val (.int c0), .val (.int d1), .val (.int xe), .val (.int c1), .val (.int c2), .val (.int xv), .val (.int xj), .val (.ref b21), .val (.int (1 : Int32)), .unset, .unset, .unset, .unset] [(.ref b21)])) _
      refine XS.iconst X57.here hx rfl (hb hby at_162) ?_
      exact k)
  obtain ⟨cq69, kq69, q69a, q69b, q69c⟩ := isOf hZ rfl Ex_63
  obtain ⟨_, _, ⟨T69, L69, k69, n69⟩, -, X69, ⟨Lc69, hQ69, l69, y69, z69⟩, st69⟩ := X57.virtualBack hx (y := (⟨"com/example/fickle/fickle/engine/LeapingChannels", "get", "(I)I"⟩ : MethodName)) (z := (⟨"com/example/fickle/fickle/engine/LeapingChannels", "get", "(I)I"⟩ : MethodName)) hown (mvT hZ (hw _ (List.mem_of_getElem? (i := 37) rfl))) (mvT hZ (hw _ (List.mem_of_getElem? (i := 38) rfl))) (notFace_of_selects (args := #[]) (mvT hZ (hw _ (List.mem_of_getElem? (i := 40) rfl)))) (mvT hZ (hw _ (List.mem_of_getElem? (i := 40) rfl))) (mvT hZ (hw _ (List.mem_of_getElem? (i := 39) rfl))) (by decide) (backOf (W := 0) (rm4 l Z a0 hw [] b21 am (1 : Int32) xn c1 _ T57.heap n0 Zh7 F_59 V_64 (by decide) hb1 ((own_upd_miss _ _ (by decide)).trans (own_upd_hit _ _ rfl))) hZ (hw _ (List.mem_of_getElem? (i := 41) rfl)) (hw _ (List.mem_of_getElem? (i := 3) rfl)) (by decide) (by decide)) q69a q69c (g := (mkF m 163 #[.val (.int p1), .val (.int p2), .val (.int p3), .val (.int p4), .val (.int p5), .val (.int p6), .val (.int xn), .val (.int c0), .val (.int d1), .val (.int xe), .val (.int c1), .val (.int c2), .val (.int xv), .val (.int xj), .val (.ref b21), .val (.int (1 : Int32)), .unset, .unset, .unset, .unset] [(.int (1 : Int32)), (.ref b21)])) rfl (by rw [hml]; rfl) (Steps.refl _) (argsL := [(.int (1 : Int32))]) (rest := []) (lenOf pd_0_3 rfl) rfl (by show 2 * 0 + _ ≤ _; exact Nat.le_of_eq rfl) (hb hby at_163) (fun _ _ => ⟨rfl, rfl, (by decide : 7 + 0 ≤ _), (by decide : 63 + 0 ≤ _)⟩)
  dsimp only [Pt.U, Pt.locs, Pt.cells, Pt.slots] at X69 l69 y69 z69 st69 hQ69
  subst l69 y69 z69
  obtain ⟨rfl, N69q, hh69⟩ := hQ69
  have N69 := Fr.app N57 N69q
  have pre70 : own_Go p e below (s₁.setTop (entryFrame m #[(.int p1), (.int p2), (.int p3), (.int p4), (.int p5), (.int p6)] maxLocals)) (T69.setTop (mkF m 166 #[.val (.int p1), .val (.int p2), .val (.int p3), .val (.int p4), .val (.int p5), .val (.int p6), .val (.int xn), .val (.int c0), .val (.int d1), .val (.int xe), .val (.int c1), .val (.int c2), .val (.int xv), .val (.int xj), .val (.ref b21), .val (.int (1 : Int32)), .unset, .unset, .unset, .unset] [(.int c1)])) := fun t k => pre68 t (st69.trans k)
  have F_71 := F_59
  rw [← hh69] at F_71
  have F_72 := F_60
  rw [← hh69] at F_72
  have F_73 := F_61
  rw [← hh69] at F_73
  have F_74 := F_62
  rw [← hh69] at F_74
  have Ex_75 := Ex_63
  rw [← hh69] at Ex_75
  have V_76 := V_64
  rw [← hh69] at V_76
  have V_77 := V_65
  rw [← hh69] at V_77
  have V_78 := V_66
  rw [← hh69] at V_78
  have K_79 := K_67
  rw [← hh69] at K_79
  have Zh8 : n0 ≤ T69.heap.size := Nat.le_trans Z0 K_79.1
  have pre80 : own_Go p e below (s₁.setTop (entryFrame m #[(.int p1), (.int p2), (.int p3), (.int p4), (.int p5), (.int p6)] maxLocals)) (T69.setTop (mkF m 174 #[.val (.int p1), .val (.int p2), .val (.int p3), .val (.int p4), .val (.int p5), .val (.int p6), .val (.int xn), .val (.int c0), .val (.int d1), .val (.int xe), .val (.int c1), .val (.int c2), .val (.int xv), .val (.int xj), .val (.ref b21), .val (.int (1 : Int32)), .unset, .unset, .unset, .unset] [(.int (2 : Int32)), (.ref b21)])) := fun t k => pre70 t (by
      show Steps p.tables e below (T69.setTop (mkF m 166 #[.val (.int p1), .val (.int p2), .val (.int p3), .val (.int p4), .val (.int p5), .val (.int p6), .val (.int xn), .val (.int c0), .val (.int d1), .val (.int xe), .val (.int c1), .val (.int c2), .val (.int xv), .val (.int xj), .val (.ref b21), .val (.int (1 : Int32)), .unset, .unset, .unset, .unset] [(.int c1)])) _
      refine XS.iload X69.here hx rfl (hb hby at_166) rfl ?_
      show Steps p.tables e below (T69.setTop (mkF m 168 #[.val (.int p1), .val (.int p2), .val (.int p3), .val (.int p4), .val (.int p5), .val (.int p6), .val (.int xn), .val (.int c0), .val (.int d1), .val (.int xe), .val (.int c1), .val (.int c2), .val (.int xv), .val (.int xj), .val (.ref b21), .val (.int (1 : Int32)), .unset, .unset, .unset, .unset] [(.int c1), (.int c1)])) _
      refine XS.icmpNo X69.here hx rfl (hb hby at_168) rfl (XT.ii_ne_f rfl) ?_
      show Steps p.tables e below (T69.setTop (mkF m 171 #[.val (.int p1), .val (.int p2), .val (.int p3), .val (.int p4), .val (.int p5), .val (.int p6), .val (.int xn), .val (.int c0), .val (.int d1), .val (.int xe), .val (.int c1), .val (.int c2), .val (.int xv), .val (.int xj), .val (.ref b21), .val (.int (1 : Int32)), .unset, .unset, .unset, .unset] [])) _
      refine XS.aload X69.here hx rfl (hb hby at_171) rfl rfl ?_
      show Steps p.tables e below (T69.setTop (mkF m 173 #[.val (.int p1), .val (.int p2), .val (.int p3), .val (.int p4), .val (.int p5), .val (.int p6), .val (.int xn), .val (.int c0), .val (.int d1), .val (.int xe), .val (.int c1), .val (.int c2), .val (.int xv), .val (.int xj), .val (.ref b21), .val (.int (1 : Int32)), .unset, .unset, .unset, .unset] [(.ref b21)])) _
      refine XS.iconst X69.here hx rfl (hb hby at_173) ?_
      exact k)
  obtain ⟨cq81, kq81, q81a, q81b, q81c⟩ := isOf hZ rfl Ex_75
  obtain ⟨_, _, ⟨T81, L81, k81, n81⟩, -, X81, ⟨Lc81, hQ81, l81, y81, z81⟩, st81⟩ := X69.virtualBack hx (y := (⟨"com/example/fickle/fickle/engine/LeapingChannels", "get", "(I)I"⟩ : MethodName)) (z := (⟨"com/example/fickle/fickle/engine/LeapingChannels", "get", "(I)I"⟩ : MethodName)) hown (mvT hZ (hw _ (List.mem_of_getElem? (i := 37) rfl))) (mvT hZ (hw _ (List.mem_of_getElem? (i := 38) rfl))) (notFace_of_selects (args := #[]) (mvT hZ (hw _ (List.mem_of_getElem? (i := 40) rfl)))) (mvT hZ (hw _ (List.mem_of_getElem? (i := 40) rfl))) (mvT hZ (hw _ (List.mem_of_getElem? (i := 39) rfl))) (by decide) (backOf (W := 0) (rm4 l Z a0 hw [] b21 am (2 : Int32) xn c2 _ T69.heap n0 Zh8 F_71 V_76 (by decide) hb2 (own_upd_hit _ _ rfl)) hZ (hw _ (List.mem_of_getElem? (i := 41) rfl)) (hw _ (List.mem_of_getElem? (i := 3) rfl)) (by decide) (by decide)) q81a q81c (g := (mkF m 174 #[.val (.int p1), .val (.int p2), .val (.int p3), .val (.int p4), .val (.int p5), .val (.int p6), .val (.int xn), .val (.int c0), .val (.int d1), .val (.int xe), .val (.int c1), .val (.int c2), .val (.int xv), .val (.int xj), .val (.ref b21), .val (.int (1 : Int32)), .unset, .unset, .unset, .unset] [(.int (2 : Int32)), (.ref b21)])) rfl (by rw [hml]; rfl) (Steps.refl _) (argsL := [(.int (2 : Int32))]) (rest := []) (lenOf pd_0_3 rfl) rfl (by show 2 * 0 + _ ≤ _; exact Nat.le_of_eq rfl) (hb hby at_174) (fun _ _ => ⟨rfl, rfl, (by decide : 7 + 0 ≤ _), (by decide : 63 + 0 ≤ _)⟩)
  dsimp only [Pt.U, Pt.locs, Pt.cells, Pt.slots] at X81 l81 y81 z81 st81 hQ81
  subst l81 y81 z81
  obtain ⟨rfl, N81q, hh81⟩ := hQ81
  have N81 := Fr.app N69 N81q
  have pre82 : own_Go p e below (s₁.setTop (entryFrame m #[(.int p1), (.int p2), (.int p3), (.int p4), (.int p5), (.int p6)] maxLocals)) (T81.setTop (mkF m 177 #[.val (.int p1), .val (.int p2), .val (.int p3), .val (.int p4), .val (.int p5), .val (.int p6), .val (.int xn), .val (.int c0), .val (.int d1), .val (.int xe), .val (.int c1), .val (.int c2), .val (.int xv), .val (.int xj), .val (.ref b21), .val (.int (1 : Int32)), .unset, .unset, .unset, .unset] [(.int c2)])) := fun t k => pre80 t (st81.trans k)
  have F_83 := F_71
  rw [← hh81] at F_83
  have F_84 := F_72
  rw [← hh81] at F_84
  have F_85 := F_73
  rw [← hh81] at F_85
  have F_86 := F_74
  rw [← hh81] at F_86
  have Ex_87 := Ex_75
  rw [← hh81] at Ex_87
  have V_88 := V_76
  rw [← hh81] at V_88
  have V_89 := V_77
  rw [← hh81] at V_89
  have V_90 := V_78
  rw [← hh81] at V_90
  have K_91 := K_79
  rw [← hh81] at K_91
  have pre92 : own_Go p e below (s₁.setTop (entryFrame m #[(.int p1), (.int p2), (.int p3), (.int p4), (.int p5), (.int p6)] maxLocals)) (T81.setTop (mkF m 193 #[.val (.int p1), .val (.int p2), .val (.int p3), .val (.int p4), .val (.int p5), .val (.int p6), .val (.int xn), .val (.int c0), .val (.int d1), .val (.int xe), .val (.int c1), .val (.int c2), .val (.int xv), .val (.int xj), .val (.ref b21), .val (.int (1 : Int32)), .unset, .unset, .unset, .unset] [(.int c0), (.int xv)])) := fun t k => pre82 t (by
      show Steps p.tables e below (T81.setTop (mkF m 177 #[.val (.int p1), .val (.int p2), .val (.int p3), .val (.int p4), .val (.int p5), .val (.int p6), .val (.int xn), .val (.int c0), .val (.int d1), .val (.int xe), .val (.int c1), .val (.int c2), .val (.int xv), .val (.int xj), .val (.ref b21), .val (.int (1 : Int32)), .unset, .unset, .unset, .unset] [(.int c2)])) _
      refine XS.iload X81.here hx rfl (hb hby at_177) rfl ?_
      show Steps p.tables e below (T81.setTop (mkF m 179 #[.val (.int p1), .val (.int p2), .val (.int p3), .val (.int p4), .val (.int p5), .val (.int p6), .val (.int xn), .val (.int c0), .val (.int d1), .val (.int xe), .val (.int c1), .val (.int c2), .val (.int xv), .val (.int xj), .val (.ref b21), .val (.int (1 : Int32)), .unset, .unset, .unset, .unset] [(.int c2), (.int c2)])) _
      refine XS.icmpNo X81.here hx rfl (hb hby at_179) rfl (XT.ii_ne_f rfl) ?_
      show Steps p.tables e below (T81.setTop (mkF m 182 #[.val (.int p1), .val (.int p2), .val (.int p3), .val (.int p4), .val (.int p5), .val (.int p6), .val (.int xn), .val (.int c0), .val (.int d1), .val (.int xe), .val (.int c1), .val (.int c2), .val (.int xv), .val (.int xj), .val (.ref b21), .val (.int (1 : Int32)), .unset, .unset, .unset, .unset] [])) _
      refine XS.iconst X81.here hx rfl (hb hby at_182) ?_
      show Steps p.tables e below (T81.setTop (mkF m 183 #[.val (.int p1), .val (.int p2), .val (.int p3), .val (.int p4), .val (.int p5), .val (.int p6), .val (.int xn), .val (.int c0), .val (.int d1), .val (.int xe), .val (.int c1), .val (.int c2), .val (.int xv), .val (.int xj), .val (.ref b21), .val (.int (1 : Int32)), .unset, .unset, .unset, .unset] [(.int (1 : Int32))])) _
      refine XS.goto X81.here hx rfl (pc0 := 183) (pc' := 187) rfl (hb hby at_183) (by decide) (by decide) ?_
      show Steps p.tables e below (T81.setTop (mkF m 187 #[.val (.int p1), .val (.int p2), .val (.int p3), .val (.int p4), .val (.int p5), .val (.int p6), .val (.int xn), .val (.int c0), .val (.int d1), .val (.int xe), .val (.int c1), .val (.int c2), .val (.int xv), .val (.int xj), .val (.ref b21), .val (.int (1 : Int32)), .unset, .unset, .unset, .unset] [(.int (1 : Int32))])) _
      refine XS.istore X81.here hx rfl (hb hby at_187) rfl (l' := #[.val (.int p1), .val (.int p2), .val (.int p3), .val (.int p4), .val (.int p5), .val (.int p6), .val (.int xn), .val (.int c0), .val (.int d1), .val (.int xe), .val (.int c1), .val (.int c2), .val (.int xv), .val (.int xj), .val (.ref b21), .val (.int (1 : Int32)), .unset, .unset, .unset, .unset]) rfl ?_
      show Steps p.tables e below (T81.setTop (mkF m 189 #[.val (.int p1), .val (.int p2), .val (.int p3), .val (.int p4), .val (.int p5), .val (.int p6), .val (.int xn), .val (.int c0), .val (.int d1), .val (.int xe), .val (.int c1), .val (.int c2), .val (.int xv), .val (.int xj), .val (.ref b21), .val (.int (1 : Int32)), .unset, .unset, .unset, .unset] [])) _
      refine XS.iload X81.here hx rfl (hb hby at_189) rfl ?_
      show Steps p.tables e below (T81.setTop (mkF m 191 #[.val (.int p1), .val (.int p2), .val (.int p3), .val (.int p4), .val (.int p5), .val (.int p6), .val (.int xn), .val (.int c0), .val (.int d1), .val (.int xe), .val (.int c1), .val (.int c2), .val (.int xv), .val (.int xj), .val (.ref b21), .val (.int (1 : Int32)), .unset, .unset, .unset, .unset] [(.int xv)])) _
      refine XS.iload X81.here hx rfl (hb hby at_191) rfl ?_
      exact k)
  obtain ⟨x16, hx16, pre93⟩ : ∃ x16 : Int32, x16 = own_in xv c0 c1 c2 ∧ own_Go p e below (s₁.setTop (entryFrame m #[(.int p1), (.int p2), (.int p3), (.int p4), (.int p5), (.int p6)] maxLocals)) (T81.setTop (mkF m 217 #[.val (.int p1), .val (.int p2), .val (.int p3), .val (.int p4), .val (.int p5), .val (.int p6), .val (.int xn), .val (.int c0), .val (.int d1), .val (.int xe), .val (.int c1), .val (.int c2), .val (.int xv), .val (.int xj), .val (.ref b21), .val (.int (1 : Int32)), .val (.int x16), .unset, .unset, .unset] [])) := by
    by_cases c193_94 : xv = c0
    · skip
      refine ⟨_, (own_in1 (Or.inl c193_94)).symm, fun t k => pre92 t ?_⟩
      show Steps p.tables e below (T81.setTop (mkF m 193 #[.val (.int p1), .val (.int p2), .val (.int p3), .val (.int p4), .val (.int p5), .val (.int p6), .val (.int xn), .val (.int c0), .val (.int d1), .val (.int xe), .val (.int c1), .val (.int c2), .val (.int xv), .val (.int xj), .val (.ref b21), .val (.int (1 : Int32)), .unset, .unset, .unset, .unset] [(.int c0), (.int xv)])) _
      refine XS.icmpYes X81.here hx rfl (pc0 := 193) (pc' := 210) rfl (hb hby at_193) rfl (XT.ii_eq_t c193_94) (by decide) (by decide) ?_
      show Steps p.tables e below (T81.setTop (mkF m 210 #[.val (.int p1), .val (.int p2), .val (.int p3), .val (.int p4), .val (.int p5), .val (.int p6), .val (.int xn), .val (.int c0), .val (.int d1), .val (.int xe), .val (.int c1), .val (.int c2), .val (.int xv), .val (.int xj), .val (.ref b21), .val (.int (1 : Int32)), .unset, .unset, .unset, .unset] [])) _
      refine XS.iconst X81.here hx rfl (hb hby at_210) ?_
      show Steps p.tables e below (T81.setTop (mkF m 211 #[.val (.int p1), .val (.int p2), .val (.int p3), .val (.int p4), .val (.int p5), .val (.int p6), .val (.int xn), .val (.int c0), .val (.int d1), .val (.int xe), .val (.int c1), .val (.int c2), .val (.int xv), .val (.int xj), .val (.ref b21), .val (.int (1 : Int32)), .unset, .unset, .unset, .unset] [(.int (1 : Int32))])) _
      refine XS.goto X81.here hx rfl (pc0 := 211) (pc' := 215) rfl (hb hby at_211) (by decide) (by decide) ?_
      show Steps p.tables e below (T81.setTop (mkF m 215 #[.val (.int p1), .val (.int p2), .val (.int p3), .val (.int p4), .val (.int p5), .val (.int p6), .val (.int xn), .val (.int c0), .val (.int d1), .val (.int xe), .val (.int c1), .val (.int c2), .val (.int xv), .val (.int xj), .val (.ref b21), .val (.int (1 : Int32)), .unset, .unset, .unset, .unset] [(.int (1 : Int32))])) _
      refine XS.istore X81.here hx rfl (hb hby at_215) rfl (l' := #[.val (.int p1), .val (.int p2), .val (.int p3), .val (.int p4), .val (.int p5), .val (.int p6), .val (.int xn), .val (.int c0), .val (.int d1), .val (.int xe), .val (.int c1), .val (.int c2), .val (.int xv), .val (.int xj), .val (.ref b21), .val (.int (1 : Int32)), .val (.int (1 : Int32)), .unset, .unset, .unset]) rfl ?_
      exact k
    · skip
      by_cases c200_95 : xv = c1
      · skip
        refine ⟨_, (own_in1 (Or.inr (Or.inl c200_95))).symm, fun t k => pre92 t ?_⟩
        show Steps p.tables e below (T81.setTop (mkF m 193 #[.val (.int p1), .val (.int p2), .val (.int p3), .val (.int p4), .val (.int p5), .val (.int p6), .val (.int xn), .val (.int c0), .val (.int d1), .val (.int xe), .val (.int c1), .val (.int c2), .val (.int xv), .val (.int xj), .val (.ref b21), .val (.int (1 : Int32)), .unset, .unset, .unset, .unset] [(.int c0), (.int xv)])) _
        refine XS.icmpNo X81.here hx rfl (hb hby at_193) rfl (XT.ii_eq_f c193_94) ?_
        show Steps p.tables e below (T81.setTop (mkF m 196 #[.val (.int p1), .val (.int p2), .val (.int p3), .val (.int p4), .val (.int p5), .val (.int p6), .val (.int xn), .val (.int c0), .val (.int d1), .val (.int xe), .val (.int c1), .val (.int c2), .val (.int xv), .val (.int xj), .val (.ref b21), .val (.int (1 : Int32)), .unset, .unset, .unset, .unset] [])) _
        refine XS.iload X81.here hx rfl (hb hby at_196) rfl ?_
        show Steps p.tables e below (T81.setTop (mkF m 198 #[.val (.int p1), .val (.int p2), .val (.int p3), .val (.int p4), .val (.int p5), .val (.int p6), .val (.int xn), .val (.int c0), .val (.int d1), .val (.int xe), .val (.int c1), .val (.int c2), .val (.int xv), .val (.int xj), .val (.ref b21), .val (.int (1 : Int32)), .unset, .unset, .unset, .unset] [(.int xv)])) _
        refine XS.iload X81.here hx rfl (hb hby at_198) rfl ?_
        show Steps p.tables e below (T81.setTop (mkF m 200 #[.val (.int p1), .val (.int p2), .val (.int p3), .val (.int p4), .val (.int p5), .val (.int p6), .val (.int xn), .val (.int c0), .val (.int d1), .val (.int xe), .val (.int c1), .val (.int c2), .val (.int xv), .val (.int xj), .val (.ref b21), .val (.int (1 : Int32)), .unset, .unset, .unset, .unset] [(.int c1), (.int xv)])) _
        refine XS.icmpYes X81.here hx rfl (pc0 := 200) (pc' := 210) rfl (hb hby at_200) rfl (XT.ii_eq_t c200_95) (by decide) (by decide) ?_
        show Steps p.tables e below (T81.setTop (mkF m 210 #[.val (.int p1), .val (.int p2), .val (.int p3), .val (.int p4), .val (.int p5), .val (.int p6), .val (.int xn), .val (.int c0), .val (.int d1), .val (.int xe), .val (.int c1), .val (.int c2), .val (.int xv), .val (.int xj), .val (.ref b21), .val (.int (1 : Int32)), .unset, .unset, .unset, .unset] [])) _
        refine XS.iconst X81.here hx rfl (hb hby at_210) ?_
        show Steps p.tables e below (T81.setTop (mkF m 211 #[.val (.int p1), .val (.int p2), .val (.int p3), .val (.int p4), .val (.int p5), .val (.int p6), .val (.int xn), .val (.int c0), .val (.int d1), .val (.int xe), .val (.int c1), .val (.int c2), .val (.int xv), .val (.int xj), .val (.ref b21), .val (.int (1 : Int32)), .unset, .unset, .unset, .unset] [(.int (1 : Int32))])) _
        refine XS.goto X81.here hx rfl (pc0 := 211) (pc' := 215) rfl (hb hby at_211) (by decide) (by decide) ?_
        show Steps p.tables e below (T81.setTop (mkF m 215 #[.val (.int p1), .val (.int p2), .val (.int p3), .val (.int p4), .val (.int p5), .val (.int p6), .val (.int xn), .val (.int c0), .val (.int d1), .val (.int xe), .val (.int c1), .val (.int c2), .val (.int xv), .val (.int xj), .val (.ref b21), .val (.int (1 : Int32)), .unset, .unset, .unset, .unset] [(.int (1 : Int32))])) _
        refine XS.istore X81.here hx rfl (hb hby at_215) rfl (l' := #[.val (.int p1), .val (.int p2), .val (.int p3), .val (.int p4), .val (.int p5), .val (.int p6), .val (.int xn), .val (.int c0), .val (.int d1), .val (.int xe), .val (.int c1), .val (.int c2), .val (.int xv), .val (.int xj), .val (.ref b21), .val (.int (1 : Int32)), .val (.int (1 : Int32)), .unset, .unset, .unset]) rfl ?_
        exact k
      · skip
        by_cases c207_96 : xv = c2
        · skip
          refine ⟨_, (own_in1 (Or.inr (Or.inr c207_96))).symm, fun t k => pre92 t ?_⟩
          show Steps p.tables e below (T81.setTop (mkF m 193 #[.val (.int p1), .val (.int p2), .val (.int p3), .val (.int p4), .val (.int p5), .val (.int p6), .val (.int xn), .val (.int c0), .val (.int d1), .val (.int xe), .val (.int c1), .val (.int c2), .val (.int xv), .val (.int xj), .val (.ref b21), .val (.int (1 : Int32)), .unset, .unset, .unset, .unset] [(.int c0), (.int xv)])) _
          refine XS.icmpNo X81.here hx rfl (hb hby at_193) rfl (XT.ii_eq_f c193_94) ?_
          show Steps p.tables e below (T81.setTop (mkF m 196 #[.val (.int p1), .val (.int p2), .val (.int p3), .val (.int p4), .val (.int p5), .val (.int p6), .val (.int xn), .val (.int c0), .val (.int d1), .val (.int xe), .val (.int c1), .val (.int c2), .val (.int xv), .val (.int xj), .val (.ref b21), .val (.int (1 : Int32)), .unset, .unset, .unset, .unset] [])) _
          refine XS.iload X81.here hx rfl (hb hby at_196) rfl ?_
          show Steps p.tables e below (T81.setTop (mkF m 198 #[.val (.int p1), .val (.int p2), .val (.int p3), .val (.int p4), .val (.int p5), .val (.int p6), .val (.int xn), .val (.int c0), .val (.int d1), .val (.int xe), .val (.int c1), .val (.int c2), .val (.int xv), .val (.int xj), .val (.ref b21), .val (.int (1 : Int32)), .unset, .unset, .unset, .unset] [(.int xv)])) _
          refine XS.iload X81.here hx rfl (hb hby at_198) rfl ?_
          show Steps p.tables e below (T81.setTop (mkF m 200 #[.val (.int p1), .val (.int p2), .val (.int p3), .val (.int p4), .val (.int p5), .val (.int p6), .val (.int xn), .val (.int c0), .val (.int d1), .val (.int xe), .val (.int c1), .val (.int c2), .val (.int xv), .val (.int xj), .val (.ref b21), .val (.int (1 : Int32)), .unset, .unset, .unset, .unset] [(.int c1), (.int xv)])) _
          refine XS.icmpNo X81.here hx rfl (hb hby at_200) rfl (XT.ii_eq_f c200_95) ?_
          show Steps p.tables e below (T81.setTop (mkF m 203 #[.val (.int p1), .val (.int p2), .val (.int p3), .val (.int p4), .val (.int p5), .val (.int p6), .val (.int xn), .val (.int c0), .val (.int d1), .val (.int xe), .val (.int c1), .val (.int c2), .val (.int xv), .val (.int xj), .val (.ref b21), .val (.int (1 : Int32)), .unset, .unset, .unset, .unset] [])) _
          refine XS.iload X81.here hx rfl (hb hby at_203) rfl ?_
          show Steps p.tables e below (T81.setTop (mkF m 205 #[.val (.int p1), .val (.int p2), .val (.int p3), .val (.int p4), .val (.int p5), .val (.int p6), .val (.int xn), .val (.int c0), .val (.int d1), .val (.int xe), .val (.int c1), .val (.int c2), .val (.int xv), .val (.int xj), .val (.ref b21), .val (.int (1 : Int32)), .unset, .unset, .unset, .unset] [(.int xv)])) _
          refine XS.iload X81.here hx rfl (hb hby at_205) rfl ?_
          show Steps p.tables e below (T81.setTop (mkF m 207 #[.val (.int p1), .val (.int p2), .val (.int p3), .val (.int p4), .val (.int p5), .val (.int p6), .val (.int xn), .val (.int c0), .val (.int d1), .val (.int xe), .val (.int c1), .val (.int c2), .val (.int xv), .val (.int xj), .val (.ref b21), .val (.int (1 : Int32)), .unset, .unset, .unset, .unset] [(.int c2), (.int xv)])) _
          refine XS.icmpNo X81.here hx rfl (hb hby at_207) rfl (XT.ii_ne_f c207_96) ?_
          show Steps p.tables e below (T81.setTop (mkF m 210 #[.val (.int p1), .val (.int p2), .val (.int p3), .val (.int p4), .val (.int p5), .val (.int p6), .val (.int xn), .val (.int c0), .val (.int d1), .val (.int xe), .val (.int c1), .val (.int c2), .val (.int xv), .val (.int xj), .val (.ref b21), .val (.int (1 : Int32)), .unset, .unset, .unset, .unset] [])) _
          refine XS.iconst X81.here hx rfl (hb hby at_210) ?_
          show Steps p.tables e below (T81.setTop (mkF m 211 #[.val (.int p1), .val (.int p2), .val (.int p3), .val (.int p4), .val (.int p5), .val (.int p6), .val (.int xn), .val (.int c0), .val (.int d1), .val (.int xe), .val (.int c1), .val (.int c2), .val (.int xv), .val (.int xj), .val (.ref b21), .val (.int (1 : Int32)), .unset, .unset, .unset, .unset] [(.int (1 : Int32))])) _
          refine XS.goto X81.here hx rfl (pc0 := 211) (pc' := 215) rfl (hb hby at_211) (by decide) (by decide) ?_
          show Steps p.tables e below (T81.setTop (mkF m 215 #[.val (.int p1), .val (.int p2), .val (.int p3), .val (.int p4), .val (.int p5), .val (.int p6), .val (.int xn), .val (.int c0), .val (.int d1), .val (.int xe), .val (.int c1), .val (.int c2), .val (.int xv), .val (.int xj), .val (.ref b21), .val (.int (1 : Int32)), .unset, .unset, .unset, .unset] [(.int (1 : Int32))])) _
          refine XS.istore X81.here hx rfl (hb hby at_215) rfl (l' := #[.val (.int p1), .val (.int p2), .val (.int p3), .val (.int p4), .val (.int p5), .val (.int p6), .val (.int xn), .val (.int c0), .val (.int d1), .val (.int xe), .val (.int c1), .val (.int c2), .val (.int xv), .val (.int xj), .val (.ref b21), .val (.int (1 : Int32)), .val (.int (1 : Int32)), .unset, .unset, .unset]) rfl ?_
          exact k
        · skip
          refine ⟨_, (own_in0 c193_94 c200_95 c207_96).symm, fun t k => pre92 t ?_⟩
          show Steps p.tables e below (T81.setTop (mkF m 193 #[.val (.int p1), .val (.int p2), .val (.int p3), .val (.int p4), .val (.int p5), .val (.int p6), .val (.int xn), .val (.int c0), .val (.int d1), .val (.int xe), .val (.int c1), .val (.int c2), .val (.int xv), .val (.int xj), .val (.ref b21), .val (.int (1 : Int32)), .unset, .unset, .unset, .unset] [(.int c0), (.int xv)])) _
          refine XS.icmpNo X81.here hx rfl (hb hby at_193) rfl (XT.ii_eq_f c193_94) ?_
          show Steps p.tables e below (T81.setTop (mkF m 196 #[.val (.int p1), .val (.int p2), .val (.int p3), .val (.int p4), .val (.int p5), .val (.int p6), .val (.int xn), .val (.int c0), .val (.int d1), .val (.int xe), .val (.int c1), .val (.int c2), .val (.int xv), .val (.int xj), .val (.ref b21), .val (.int (1 : Int32)), .unset, .unset, .unset, .unset] [])) _
          refine XS.iload X81.here hx rfl (hb hby at_196) rfl ?_
          show Steps p.tables e below (T81.setTop (mkF m 198 #[.val (.int p1), .val (.int p2), .val (.int p3), .val (.int p4), .val (.int p5), .val (.int p6), .val (.int xn), .val (.int c0), .val (.int d1), .val (.int xe), .val (.int c1), .val (.int c2), .val (.int xv), .val (.int xj), .val (.ref b21), .val (.int (1 : Int32)), .unset, .unset, .unset, .unset] [(.int xv)])) _
          refine XS.iload X81.here hx rfl (hb hby at_198) rfl ?_
          show Steps p.tables e below (T81.setTop (mkF m 200 #[.val (.int p1), .val (.int p2), .val (.int p3), .val (.int p4), .val (.int p5), .val (.int p6), .val (.int xn), .val (.int c0), .val (.int d1), .val (.int xe), .val (.int c1), .val (.int c2), .val (.int xv), .val (.int xj), .val (.ref b21), .val (.int (1 : Int32)), .unset, .unset, .unset, .unset] [(.int c1), (.int xv)])) _
          refine XS.icmpNo X81.here hx rfl (hb hby at_200) rfl (XT.ii_eq_f c200_95) ?_
          show Steps p.tables e below (T81.setTop (mkF m 203 #[.val (.int p1), .val (.int p2), .val (.int p3), .val (.int p4), .val (.int p5), .val (.int p6), .val (.int xn), .val (.int c0), .val (.int d1), .val (.int xe), .val (.int c1), .val (.int c2), .val (.int xv), .val (.int xj), .val (.ref b21), .val (.int (1 : Int32)), .unset, .unset, .unset, .unset] [])) _
          refine XS.iload X81.here hx rfl (hb hby at_203) rfl ?_
          show Steps p.tables e below (T81.setTop (mkF m 205 #[.val (.int p1), .val (.int p2), .val (.int p3), .val (.int p4), .val (.int p5), .val (.int p6), .val (.int xn), .val (.int c0), .val (.int d1), .val (.int xe), .val (.int c1), .val (.int c2), .val (.int xv), .val (.int xj), .val (.ref b21), .val (.int (1 : Int32)), .unset, .unset, .unset, .unset] [(.int xv)])) _
          refine XS.iload X81.here hx rfl (hb hby at_205) rfl ?_
          show Steps p.tables e below (T81.setTop (mkF m 207 #[.val (.int p1), .val (.int p2), .val (.int p3), .val (.int p4), .val (.int p5), .val (.int p6), .val (.int xn), .val (.int c0), .val (.int d1), .val (.int xe), .val (.int c1), .val (.int c2), .val (.int xv), .val (.int xj), .val (.ref b21), .val (.int (1 : Int32)), .unset, .unset, .unset, .unset] [(.int c2), (.int xv)])) _
          refine XS.icmpYes X81.here hx rfl (pc0 := 207) (pc' := 214) rfl (hb hby at_207) rfl (XT.ii_ne_t c207_96) (by decide) (by decide) ?_
          show Steps p.tables e below (T81.setTop (mkF m 214 #[.val (.int p1), .val (.int p2), .val (.int p3), .val (.int p4), .val (.int p5), .val (.int p6), .val (.int xn), .val (.int c0), .val (.int d1), .val (.int xe), .val (.int c1), .val (.int c2), .val (.int xv), .val (.int xj), .val (.ref b21), .val (.int (1 : Int32)), .unset, .unset, .unset, .unset] [])) _
          refine XS.iconst X81.here hx rfl (hb hby at_214) ?_
          show Steps p.tables e below (T81.setTop (mkF m 215 #[.val (.int p1), .val (.int p2), .val (.int p3), .val (.int p4), .val (.int p5), .val (.int p6), .val (.int xn), .val (.int c0), .val (.int d1), .val (.int xe), .val (.int c1), .val (.int c2), .val (.int xv), .val (.int xj), .val (.ref b21), .val (.int (1 : Int32)), .unset, .unset, .unset, .unset] [(.int (0 : Int32))])) _
          refine XS.istore X81.here hx rfl (hb hby at_215) rfl (l' := #[.val (.int p1), .val (.int p2), .val (.int p3), .val (.int p4), .val (.int p5), .val (.int p6), .val (.int xn), .val (.int c0), .val (.int d1), .val (.int xe), .val (.int c1), .val (.int c2), .val (.int xv), .val (.int xj), .val (.ref b21), .val (.int (1 : Int32)), .val (.int (0 : Int32)), .unset, .unset, .unset]) rfl ?_
          exact k
  have Zh9 : n0 ≤ T81.heap.size := Nat.le_trans Z0 K_91.1
  have pre97 : own_Go p e below (s₁.setTop (entryFrame m #[(.int p1), (.int p2), (.int p3), (.int p4), (.int p5), (.int p6)] maxLocals)) (T81.setTop (mkF m 226 #[.val (.int p1), .val (.int p2), .val (.int p3), .val (.int p4), .val (.int p5), .val (.int p6), .val (.int xn), .val (.int c0), .val (.int d1), .val (.int xe), .val (.int c1), .val (.int c2), .val (.int xv), .val (.int xj), .val (.ref b21), .val (.int (1 : Int32)), .val (.int x16), .unset, .unset, .unset] [(.int xv), (.ref b21)])) := fun t k => pre93 t (by
      show Steps p.tables e below (T81.setTop (mkF m 217 #[.val (.int p1), .val (.int p2), .val (.int p3), .val (.int p4), .val (.int p5), .val (.int p6), .val (.int xn), .val (.int c0), .val (.int d1), .val (.int xe), .val (.int c1), .val (.int c2), .val (.int xv), .val (.int xj), .val (.ref b21), .val (.int (1 : Int32)), .val (.int x16), .unset, .unset, .unset] [])) _
      refine XS.iload X81.here hx rfl (hb hby at_217) rfl ?_
      show Steps p.tables e below (T81.setTop (mkF m 219 #[.val (.int p1), .val (.int p2), .val (.int p3), .val (.int p4), .val (.int p5), .val (.int p6), .val (.int xn), .val (.int c0), .val (.int d1), .val (.int xe), .val (.int c1), .val (.int c2), .val (.int xv), .val (.int xj), .val (.ref b21), .val (.int (1 : Int32)), .val (.int x16), .unset, .unset, .unset] [(.int (1 : Int32))])) _
      refine XS.ifNo X81.here hx rfl (hb hby at_219) rfl (XT.i0_eq_f (by decide)) ?_
      show Steps p.tables e below (T81.setTop (mkF m 222 #[.val (.int p1), .val (.int p2), .val (.int p3), .val (.int p4), .val (.int p5), .val (.int p6), .val (.int xn), .val (.int c0), .val (.int d1), .val (.int xe), .val (.int c1), .val (.int c2), .val (.int xv), .val (.int xj), .val (.ref b21), .val (.int (1 : Int32)), .val (.int x16), .unset, .unset, .unset] [])) _
      refine XS.aload X81.here hx rfl (hb hby at_222) rfl rfl ?_
      show Steps p.tables e below (T81.setTop (mkF m 224 #[.val (.int p1), .val (.int p2), .val (.int p3), .val (.int p4), .val (.int p5), .val (.int p6), .val (.int xn), .val (.int c0), .val (.int d1), .val (.int xe), .val (.int c1), .val (.int c2), .val (.int xv), .val (.int xj), .val (.ref b21), .val (.int (1 : Int32)), .val (.int x16), .unset, .unset, .unset] [(.ref b21)])) _
      refine XS.iload X81.here hx rfl (hb hby at_224) rfl ?_
      exact k)
  obtain ⟨cq98, kq98, q98a, q98b, q98c⟩ := isOf hZ rfl Ex_87
  obtain ⟨_, _, ⟨T98, L98, k98, n98⟩, -, X98, ⟨Lc98, hQ98, l98, y98, z98⟩, st98⟩ := X81.virtualBack hx (y := (⟨"com/example/fickle/fickle/engine/LeapingChannels", "contains", "(I)Z"⟩ : MethodName)) (z := (⟨"com/example/fickle/fickle/engine/LeapingChannels", "contains", "(I)Z"⟩ : MethodName)) hown (mvT hZ (hw _ (List.mem_of_getElem? (i := 42) rfl))) (mvT hZ (hw _ (List.mem_of_getElem? (i := 43) rfl))) (notFace_of_selects (args := #[]) (mvT hZ (hw _ (List.mem_of_getElem? (i := 45) rfl)))) (mvT hZ (hw _ (List.mem_of_getElem? (i := 45) rfl))) (mvT hZ (hw _ (List.mem_of_getElem? (i := 44) rfl))) (by decide) (backOf (W := 0) (rm5 l Z a0 hw [] b21 ah xv xn (own_in xv c0 c1 c2) _ T81.heap n0 Zh9 F_85 V_90 xv_0 xv_n (own_held (fun _ => rfl) xv_0 c0_0 c1_0 c2_0) (own_in_nar _ _ _ _)) hZ (hw _ (List.mem_of_getElem? (i := 46) rfl)) (hw _ (List.mem_of_getElem? (i := 3) rfl)) (by decide) (by decide)) q98a q98c (g := (mkF m 226 #[.val (.int p1), .val (.int p2), .val (.int p3), .val (.int p4), .val (.int p5), .val (.int p6), .val (.int xn), .val (.int c0), .val (.int d1), .val (.int xe), .val (.int c1), .val (.int c2), .val (.int xv), .val (.int xj), .val (.ref b21), .val (.int (1 : Int32)), .val (.int x16), .unset, .unset, .unset] [(.int xv), (.ref b21)])) rfl (by rw [hml]; rfl) (Steps.refl _) (argsL := [(.int xv)]) (rest := []) (lenOf pd_0_4 rfl) rfl (by show 2 * 0 + _ ≤ _; exact Nat.le_of_eq rfl) (hb hby at_226) (fun _ _ => ⟨rfl, rfl, (by decide : 7 + 0 ≤ _), (by decide : 63 + 0 ≤ _)⟩)
  dsimp only [Pt.U, Pt.locs, Pt.cells, Pt.slots] at X98 l98 y98 z98 st98 hQ98
  subst l98 y98 z98
  obtain ⟨rfl, N98q, hh98⟩ := hQ98
  have N98 := Fr.app N81 N98q
  have pre99 : own_Go p e below (s₁.setTop (entryFrame m #[(.int p1), (.int p2), (.int p3), (.int p4), (.int p5), (.int p6)] maxLocals)) (T98.setTop (mkF m 229 #[.val (.int p1), .val (.int p2), .val (.int p3), .val (.int p4), .val (.int p5), .val (.int p6), .val (.int xn), .val (.int c0), .val (.int d1), .val (.int xe), .val (.int c1), .val (.int c2), .val (.int xv), .val (.int xj), .val (.ref b21), .val (.int (1 : Int32)), .val (.int x16), .unset, .unset, .unset] [(.int (own_in xv c0 c1 c2))])) := fun t k => pre97 t (st98.trans k)
  have F_100 := F_83
  rw [← hh98] at F_100
  have F_101 := F_84
  rw [← hh98] at F_101
  have F_102 := F_85
  rw [← hh98] at F_102
  have F_103 := F_86
  rw [← hh98] at F_103
  have Ex_104 := Ex_87
  rw [← hh98] at Ex_104
  have V_105 := V_88
  rw [← hh98] at V_105
  have V_106 := V_89
  rw [← hh98] at V_106
  have V_107 := V_90
  rw [← hh98] at V_107
  have K_108 := K_91
  rw [← hh98] at K_108
  have pre109 : own_Go p e below (s₁.setTop (entryFrame m #[(.int p1), (.int p2), (.int p3), (.int p4), (.int p5), (.int p6)] maxLocals)) (T98.setTop (mkF m 241 #[.val (.int p1), .val (.int p2), .val (.int p3), .val (.int p4), .val (.int p5), .val (.int p6), .val (.int xn), .val (.int c0), .val (.int d1), .val (.int xe), .val (.int c1), .val (.int c2), .val (.int xv), .val (.int xj), .val (.ref b21), .val (.int (1 : Int32)), .val (.int x16), .unset, .unset, .unset] [])) := fun t k => pre99 t (by
      show Steps p.tables e below (T98.setTop (mkF m 229 #[.val (.int p1), .val (.int p2), .val (.int p3), .val (.int p4), .val (.int p5), .val (.int p6), .val (.int xn), .val (.int c0), .val (.int d1), .val (.int xe), .val (.int c1), .val (.int c2), .val (.int xv), .val (.int xj), .val (.ref b21), .val (.int (1 : Int32)), .val (.int x16), .unset, .unset, .unset] [(.int (own_in xv c0 c1 c2))])) _
      refine XS.iload X98.here hx rfl (hb hby at_229) rfl ?_
      show Steps p.tables e below (T98.setTop (mkF m 231 #[.val (.int p1), .val (.int p2), .val (.int p3), .val (.int p4), .val (.int p5), .val (.int p6), .val (.int xn), .val (.int c0), .val (.int d1), .val (.int xe), .val (.int c1), .val (.int c2), .val (.int xv), .val (.int xj), .val (.ref b21), .val (.int (1 : Int32)), .val (.int x16), .unset, .unset, .unset] [(.int x16), (.int (own_in xv c0 c1 c2))])) _
      refine XS.icmpNo X98.here hx rfl (hb hby at_231) rfl (XT.ii_ne_f hx16.symm) ?_
      show Steps p.tables e below (T98.setTop (mkF m 234 #[.val (.int p1), .val (.int p2), .val (.int p3), .val (.int p4), .val (.int p5), .val (.int p6), .val (.int xn), .val (.int c0), .val (.int d1), .val (.int xe), .val (.int c1), .val (.int c2), .val (.int xv), .val (.int xj), .val (.ref b21), .val (.int (1 : Int32)), .val (.int x16), .unset, .unset, .unset] [])) _
      refine XS.iconst X98.here hx rfl (hb hby at_234) ?_
      show Steps p.tables e below (T98.setTop (mkF m 235 #[.val (.int p1), .val (.int p2), .val (.int p3), .val (.int p4), .val (.int p5), .val (.int p6), .val (.int xn), .val (.int c0), .val (.int d1), .val (.int xe), .val (.int c1), .val (.int c2), .val (.int xv), .val (.int xj), .val (.ref b21), .val (.int (1 : Int32)), .val (.int x16), .unset, .unset, .unset] [(.int (1 : Int32))])) _
      refine XS.goto X98.here hx rfl (pc0 := 235) (pc' := 239) rfl (hb hby at_235) (by decide) (by decide) ?_
      show Steps p.tables e below (T98.setTop (mkF m 239 #[.val (.int p1), .val (.int p2), .val (.int p3), .val (.int p4), .val (.int p5), .val (.int p6), .val (.int xn), .val (.int c0), .val (.int d1), .val (.int xe), .val (.int c1), .val (.int c2), .val (.int xv), .val (.int xj), .val (.ref b21), .val (.int (1 : Int32)), .val (.int x16), .unset, .unset, .unset] [(.int (1 : Int32))])) _
      refine XS.istore X98.here hx rfl (hb hby at_239) rfl (l' := #[.val (.int p1), .val (.int p2), .val (.int p3), .val (.int p4), .val (.int p5), .val (.int p6), .val (.int xn), .val (.int c0), .val (.int d1), .val (.int xe), .val (.int c1), .val (.int c2), .val (.int xv), .val (.int xj), .val (.ref b21), .val (.int (1 : Int32)), .val (.int x16), .unset, .unset, .unset]) rfl ?_
      exact k)
  clear hj
  rcases hj3 with rfl | rfl | rfl
  · skip
    have Zh10 : n0 ≤ T98.heap.size := Nat.le_trans Z0 K_108.1
    have pre110 : own_Go p e below (s₁.setTop (entryFrame m #[(.int p1), (.int p2), (.int p3), (.int p4), (.int p5), (.int p6)] maxLocals)) (T98.setTop (mkF m 270 #[.val (.int p1), .val (.int p2), .val (.int p3), .val (.int p4), .val (.int p5), .val (.int p6), .val (.int xn), .val (.int c0), .val (.int d1), .val (.int xe), .val (.int c1), .val (.int c2), .val (.int xv), .val (.int (0 : Int32)), .val (.ref b21), .val (.int (1 : Int32)), .val (.int x16), .val (.int c0), .unset, .unset] [(.int c0), (.ref b21)])) := fun t k => pre109 t (by
        show Steps p.tables e below (T98.setTop (mkF m 241 #[.val (.int p1), .val (.int p2), .val (.int p3), .val (.int p4), .val (.int p5), .val (.int p6), .val (.int xn), .val (.int c0), .val (.int d1), .val (.int xe), .val (.int c1), .val (.int c2), .val (.int xv), .val (.int (0 : Int32)), .val (.ref b21), .val (.int (1 : Int32)), .val (.int x16), .unset, .unset, .unset] [])) _
        refine XS.iload X98.here hx rfl (hb hby at_241) rfl ?_
        show Steps p.tables e below (T98.setTop (mkF m 243 #[.val (.int p1), .val (.int p2), .val (.int p3), .val (.int p4), .val (.int p5), .val (.int p6), .val (.int xn), .val (.int c0), .val (.int d1), .val (.int xe), .val (.int c1), .val (.int c2), .val (.int xv), .val (.int (0 : Int32)), .val (.ref b21), .val (.int (1 : Int32)), .val (.int x16), .unset, .unset, .unset] [(.int (0 : Int32))])) _
        refine XS.ifNo X98.here hx rfl (hb hby at_243) rfl (XT.i0_ne_f (by decide)) ?_
        show Steps p.tables e below (T98.setTop (mkF m 246 #[.val (.int p1), .val (.int p2), .val (.int p3), .val (.int p4), .val (.int p5), .val (.int p6), .val (.int xn), .val (.int c0), .val (.int d1), .val (.int xe), .val (.int c1), .val (.int c2), .val (.int xv), .val (.int (0 : Int32)), .val (.ref b21), .val (.int (1 : Int32)), .val (.int x16), .unset, .unset, .unset] [])) _
        refine XS.iload X98.here hx rfl (hb hby at_246) rfl ?_
        show Steps p.tables e below (T98.setTop (mkF m 248 #[.val (.int p1), .val (.int p2), .val (.int p3), .val (.int p4), .val (.int p5), .val (.int p6), .val (.int xn), .val (.int c0), .val (.int d1), .val (.int xe), .val (.int c1), .val (.int c2), .val (.int xv), .val (.int (0 : Int32)), .val (.ref b21), .val (.int (1 : Int32)), .val (.int x16), .unset, .unset, .unset] [(.int c0)])) _
        refine XS.goto X98.here hx rfl (pc0 := 248) (pc' := 264) rfl (hb hby at_248) (by decide) (by decide) ?_
        show Steps p.tables e below (T98.setTop (mkF m 264 #[.val (.int p1), .val (.int p2), .val (.int p3), .val (.int p4), .val (.int p5), .val (.int p6), .val (.int xn), .val (.int c0), .val (.int d1), .val (.int xe), .val (.int c1), .val (.int c2), .val (.int xv), .val (.int (0 : Int32)), .val (.ref b21), .val (.int (1 : Int32)), .val (.int x16), .unset, .unset, .unset] [(.int c0)])) _
        refine XS.istore X98.here hx rfl (hb hby at_264) rfl (l' := #[.val (.int p1), .val (.int p2), .val (.int p3), .val (.int p4), .val (.int p5), .val (.int p6), .val (.int xn), .val (.int c0), .val (.int d1), .val (.int xe), .val (.int c1), .val (.int c2), .val (.int xv), .val (.int (0 : Int32)), .val (.ref b21), .val (.int (1 : Int32)), .val (.int x16), .val (.int c0), .unset, .unset]) rfl ?_
        show Steps p.tables e below (T98.setTop (mkF m 266 #[.val (.int p1), .val (.int p2), .val (.int p3), .val (.int p4), .val (.int p5), .val (.int p6), .val (.int xn), .val (.int c0), .val (.int d1), .val (.int xe), .val (.int c1), .val (.int c2), .val (.int xv), .val (.int (0 : Int32)), .val (.ref b21), .val (.int (1 : Int32)), .val (.int x16), .val (.int c0), .unset, .unset] [])) _
        refine XS.aload X98.here hx rfl (hb hby at_266) rfl rfl ?_
        show Steps p.tables e below (T98.setTop (mkF m 268 #[.val (.int p1), .val (.int p2), .val (.int p3), .val (.int p4), .val (.int p5), .val (.int p6), .val (.int xn), .val (.int c0), .val (.int d1), .val (.int xe), .val (.int c1), .val (.int c2), .val (.int xv), .val (.int (0 : Int32)), .val (.ref b21), .val (.int (1 : Int32)), .val (.int x16), .val (.int c0), .unset, .unset] [(.ref b21)])) _
        refine XS.iload X98.here hx rfl (hb hby at_268) rfl ?_
        exact k)
    obtain ⟨cq111, kq111, q111a, q111b, q111c⟩ := isOf hZ rfl Ex_104
    obtain ⟨_, _, ⟨T111, L111, k111, n111⟩, -, X111, ⟨Lc111, hQ111, l111, y111, z111⟩, st111⟩ := X98.virtualBack hx (y := (⟨"com/example/fickle/fickle/engine/LeapingChannels", "remove", "(I)V"⟩ : MethodName)) (z := (⟨"com/example/fickle/fickle/engine/LeapingChannels", "remove", "(I)V"⟩ : MethodName)) hown (mvT hZ (hw _ (List.mem_of_getElem? (i := 47) rfl))) (mvT hZ (hw _ (List.mem_of_getElem? (i := 48) rfl))) (notFace_of_selects (args := #[]) (mvT hZ (hw _ (List.mem_of_getElem? (i := 50) rfl)))) (mvT hZ (hw _ (List.mem_of_getElem? (i := 50) rfl))) (mvT hZ (hw _ (List.mem_of_getElem? (i := 49) rfl))) (by decide) (backOf (W := 0) (rm6 l Z a0 hw [] c0 b21 am ap ah (3 : Int32) xn _ _ _ (2 : Int32) c2 (0 : Int32) T98.heap n0 Zh10 F_100 F_101 F_102 F_103 V_105 V_106 V_107 Ex_104 g_b21 g_am g_ap g_ah ne_am ne_ap ne_ah nmp nmh nph (by decide) (by decide) hb2 c0_0 c0_n (own_upd_hit _ _ rfl) c2_0 c2_n ((own_upd_miss _ _ (own_nn c0_0 c2_0 n02)).trans ((own_upd_miss _ _ (own_nn c0_0 c1_0 n01)).trans (own_upd_hit _ _ rfl))) (by decide) hb0) hZ (hw _ (List.mem_of_getElem? (i := 51) rfl)) (hw _ (List.mem_of_getElem? (i := 3) rfl)) (by decide) (by decide)) q111a q111c (g := (mkF m 270 #[.val (.int p1), .val (.int p2), .val (.int p3), .val (.int p4), .val (.int p5), .val (.int p6), .val (.int xn), .val (.int c0), .val (.int d1), .val (.int xe), .val (.int c1), .val (.int c2), .val (.int xv), .val (.int (0 : Int32)), .val (.ref b21), .val (.int (1 : Int32)), .val (.int x16), .val (.int c0), .unset, .unset] [(.int c0), (.ref b21)])) rfl (by rw [hml]; rfl) (Steps.refl _) (argsL := [(.int c0)]) (rest := []) (lenOf pd_0_1 rfl) rfl (by show 2 * 0 + _ ≤ _; exact Nat.le_of_eq rfl) (hb hby at_270) (fun _ _ => ⟨rfl, rfl, (by decide : 7 + 0 ≤ _), (by decide : 63 + 0 ≤ _)⟩)
    dsimp only [Pt.U, Pt.locs, Pt.cells, Pt.slots] at X111 l111 y111 z111 st111 hQ111
    subst l111 y111 z111
    obtain ⟨rfl, N111q, K111, Fm111, Fp111, Fh111, Fs111, Vm111⟩ := hQ111
    have N111 := Fr.app N98 N111q
    have pre112 : own_Go p e below (s₁.setTop (entryFrame m #[(.int p1), (.int p2), (.int p3), (.int p4), (.int p5), (.int p6)] maxLocals)) (T111.setTop (mkF m 273 #[.val (.int p1), .val (.int p2), .val (.int p3), .val (.int p4), .val (.int p5), .val (.int p6), .val (.int xn), .val (.int c0), .val (.int d1), .val (.int xe), .val (.int c1), .val (.int c2), .val (.int xv), .val (.int (0 : Int32)), .val (.ref b21), .val (.int (1 : Int32)), .val (.int x16), .val (.int c0), .unset, .unset] [])) := fun t k => pre110 t (st111.trans k)
    have Ex_113 := Ex_104.keep K111
    have K_114 := K_108.trans K111 (allS (Or.inr sz_b21) (allS (Or.inr sz_am) (allS (Or.inr sz_ap) (allS (Or.inr sz_ah) all0))))
    have Zh11 : n0 ≤ T111.heap.size := Nat.le_trans Z0 K_114.1
    have pre115 : own_Go p e below (s₁.setTop (entryFrame m #[(.int p1), (.int p2), (.int p3), (.int p4), (.int p5), (.int p6)] maxLocals)) (T111.setTop (mkF m 309 #[.val (.int p1), .val (.int p2), .val (.int p3), .val (.int p4), .val (.int p5), .val (.int p6), .val (.int xn), .val (.int c0), .val (.int d1), .val (.int xe), .val (.int c1), .val (.int c2), .val (.int xv), .val (.int (0 : Int32)), .val (.ref b21), .val (.int (1 : Int32)), .val (.int x16), .val (.int c0), .val (.int c2), .val (.int c1)] [(.ref b21)])) := fun t k => pre112 t (by
        show Steps p.tables e below (T111.setTop (mkF m 273 #[.val (.int p1), .val (.int p2), .val (.int p3), .val (.int p4), .val (.int p5), .val (.int p6), .val (.int xn), .val (.int c0), .val (.int d1), .val (.int xe), .val (.int c1), .val (.int c2), .val (.int xv), .val (.int (0 : Int32)), .val (.ref b21), .val (.int (1 : Int32)), .val (.int x16), .val (.int c0), .unset, .unset] [])) _
        refine XS.iload X111.here hx rfl (hb hby at_273) rfl ?_
        show Steps p.tables e below (T111.setTop (mkF m 275 #[.val (.int p1), .val (.int p2), .val (.int p3), .val (.int p4), .val (.int p5), .val (.int p6), .val (.int xn), .val (.int c0), .val (.int d1), .val (.int xe), .val (.int c1), .val (.int c2), .val (.int xv), .val (.int (0 : Int32)), .val (.ref b21), .val (.int (1 : Int32)), .val (.int x16), .val (.int c0), .unset, .unset] [(.int (0 : Int32))])) _
        refine XS.ifNo X111.here hx rfl (hb hby at_275) rfl (XT.i0_ne_f (by decide)) ?_
        show Steps p.tables e below (T111.setTop (mkF m 278 #[.val (.int p1), .val (.int p2), .val (.int p3), .val (.int p4), .val (.int p5), .val (.int p6), .val (.int xn), .val (.int c0), .val (.int d1), .val (.int xe), .val (.int c1), .val (.int c2), .val (.int xv), .val (.int (0 : Int32)), .val (.ref b21), .val (.int (1 : Int32)), .val (.int x16), .val (.int c0), .unset, .unset] [])) _
        refine XS.iload X111.here hx rfl (hb hby at_278) rfl ?_
        show Steps p.tables e below (T111.setTop (mkF m 280 #[.val (.int p1), .val (.int p2), .val (.int p3), .val (.int p4), .val (.int p5), .val (.int p6), .val (.int xn), .val (.int c0), .val (.int d1), .val (.int xe), .val (.int c1), .val (.int c2), .val (.int xv), .val (.int (0 : Int32)), .val (.ref b21), .val (.int (1 : Int32)), .val (.int x16), .val (.int c0), .unset, .unset] [(.int c2)])) _
        refine XS.goto X111.here hx rfl (pc0 := 280) (pc' := 285) rfl (hb hby at_280) (by decide) (by decide) ?_
        show Steps p.tables e below (T111.setTop (mkF m 285 #[.val (.int p1), .val (.int p2), .val (.int p3), .val (.int p4), .val (.int p5), .val (.int p6), .val (.int xn), .val (.int c0), .val (.int d1), .val (.int xe), .val (.int c1), .val (.int c2), .val (.int xv), .val (.int (0 : Int32)), .val (.ref b21), .val (.int (1 : Int32)), .val (.int x16), .val (.int c0), .unset, .unset] [(.int c2)])) _
        refine XS.istore X111.here hx rfl (hb hby at_285) rfl (l' := #[.val (.int p1), .val (.int p2), .val (.int p3), .val (.int p4), .val (.int p5), .val (.int p6), .val (.int xn), .val (.int c0), .val (.int d1), .val (.int xe), .val (.int c1), .val (.int c2), .val (.int xv), .val (.int (0 : Int32)), .val (.ref b21), .val (.int (1 : Int32)), .val (.int x16), .val (.int c0), .val (.int c2), .unset]) rfl ?_
        show Steps p.tables e below (T111.setTop (mkF m 287 #[.val (.int p1), .val (.int p2), .val (.int p3), .val (.int p4), .val (.int p5), .val (.int p6), .val (.int xn), .val (.int c0), .val (.int d1), .val (.int xe), .val (.int c1), .val (.int c2), .val (.int xv), .val (.int (0 : Int32)), .val (.ref b21), .val (.int (1 : Int32)), .val (.int x16), .val (.int c0), .val (.int c2), .unset] [])) _
        refine XS.iload X111.here hx rfl (hb hby at_287) rfl ?_
        show Steps p.tables e below (T111.setTop (mkF m 289 #[.val (.int p1), .val (.int p2), .val (.int p3), .val (.int p4), .val (.int p5), .val (.int p6), .val (.int xn), .val (.int c0), .val (.int d1), .val (.int xe), .val (.int c1), .val (.int c2), .val (.int xv), .val (.int (0 : Int32)), .val (.ref b21), .val (.int (1 : Int32)), .val (.int x16), .val (.int c0), .val (.int c2), .unset] [(.int (0 : Int32))])) _
        refine XS.iconst X111.here hx rfl (hb hby at_289) ?_
        show Steps p.tables e below (T111.setTop (mkF m 290 #[.val (.int p1), .val (.int p2), .val (.int p3), .val (.int p4), .val (.int p5), .val (.int p6), .val (.int xn), .val (.int c0), .val (.int d1), .val (.int xe), .val (.int c1), .val (.int c2), .val (.int xv), .val (.int (0 : Int32)), .val (.ref b21), .val (.int (1 : Int32)), .val (.int x16), .val (.int c0), .val (.int c2), .unset] [(.int (1 : Int32)), (.int (0 : Int32))])) _
        refine XS.icmpYes X111.here hx rfl (pc0 := 290) (pc' := 298) rfl (hb hby at_290) rfl (XT.ii_ne_t (by decide)) (by decide) (by decide) ?_
        show Steps p.tables e below (T111.setTop (mkF m 298 #[.val (.int p1), .val (.int p2), .val (.int p3), .val (.int p4), .val (.int p5), .val (.int p6), .val (.int xn), .val (.int c0), .val (.int d1), .val (.int xe), .val (.int c1), .val (.int c2), .val (.int xv), .val (.int (0 : Int32)), .val (.ref b21), .val (.int (1 : Int32)), .val (.int x16), .val (.int c0), .val (.int c2), .unset] [])) _
        refine XS.iload X111.here hx rfl (hb hby at_298) rfl ?_
        show Steps p.tables e below (T111.setTop (mkF m 300 #[.val (.int p1), .val (.int p2), .val (.int p3), .val (.int p4), .val (.int p5), .val (.int p6), .val (.int xn), .val (.int c0), .val (.int d1), .val (.int xe), .val (.int c1), .val (.int c2), .val (.int xv), .val (.int (0 : Int32)), .val (.ref b21), .val (.int (1 : Int32)), .val (.int x16), .val (.int c0), .val (.int c2), .unset] [(.int c1)])) _
        refine XS.istore X111.here hx rfl (hb hby at_300) rfl (l' := #[.val (.int p1), .val (.int p2), .val (.int p3), .val (.int p4), .val (.int p5), .val (.int p6), .val (.int xn), .val (.int c0), .val (.int d1), .val (.int xe), .val (.int c1), .val (.int c2), .val (.int xv), .val (.int (0 : Int32)), .val (.ref b21), .val (.int (1 : Int32)), .val (.int x16), .val (.int c0), .val (.int c2), .val (.int c1)]) rfl ?_
        show Steps p.tables e below (T111.setTop (mkF m 302 #[.val (.int p1), .val (.int p2), .val (.int p3), .val (.int p4), .val (.int p5), .val (.int p6), .val (.int xn), .val (.int c0), .val (.int d1), .val (.int xe), .val (.int c1), .val (.int c2), .val (.int xv), .val (.int (0 : Int32)), .val (.ref b21), .val (.int (1 : Int32)), .val (.int x16), .val (.int c0), .val (.int c2), .val (.int c1)] [])) _
        refine XS.iload X111.here hx rfl (hb hby at_302) rfl ?_
        show Steps p.tables e below (T111.setTop (mkF m 304 #[.val (.int p1), .val (.int p2), .val (.int p3), .val (.int p4), .val (.int p5), .val (.int p6), .val (.int xn), .val (.int c0), .val (.int d1), .val (.int xe), .val (.int c1), .val (.int c2), .val (.int xv), .val (.int (0 : Int32)), .val (.ref b21), .val (.int (1 : Int32)), .val (.int x16), .val (.int c0), .val (.int c2), .val (.int c1)] [(.int (1 : Int32))])) _
        refine XS.ifNo X111.here hx rfl (hb hby at_304) rfl (XT.i0_eq_f (by decide)) ?_
        show Steps p.tables e below (T111.setTop (mkF m 307 #[.val (.int p1), .val (.int p2), .val (.int p3), .val (.int p4), .val (.int p5), .val (.int p6), .val (.int xn), .val (.int c0), .val (.int d1), .val (.int xe), .val (.int c1), .val (.int c2), .val (.int xv), .val (.int (0 : Int32)), .val (.ref b21), .val (.int (1 : Int32)), .val (.int x16), .val (.int c0), .val (.int c2), .val (.int c1)] [])) _
        refine XS.aload X111.here hx rfl (hb hby at_307) rfl rfl ?_
        exact k)
    obtain ⟨cq116, kq116, q116a, q116b, q116c⟩ := isOf hZ rfl Ex_113
    obtain ⟨_, _, ⟨T116, L116, k116, n116⟩, -, X116, ⟨Lc116, hQ116, l116, y116, z116⟩, st116⟩ := X111.virtualBack hx (y := (⟨"com/example/fickle/fickle/engine/LeapingChannels", "size", "()I"⟩ : MethodName)) (z := (⟨"com/example/fickle/fickle/engine/LeapingChannels", "size", "()I"⟩ : MethodName)) hown (mvT hZ (hw _ (List.mem_of_getElem? (i := 32) rfl))) (mvT hZ (hw _ (List.mem_of_getElem? (i := 33) rfl))) (notFace_of_selects (args := #[]) (mvT hZ (hw _ (List.mem_of_getElem? (i := 35) rfl)))) (mvT hZ (hw _ (List.mem_of_getElem? (i := 35) rfl))) (mvT hZ (hw _ (List.mem_of_getElem? (i := 34) rfl))) (by decide) (backOf (W := 0) (rm3 l Z a0 hw [] b21 (2 : Int32) T111.heap n0 Zh11 Fs111) hZ (hw _ (List.mem_of_getElem? (i := 36) rfl)) (hw _ (List.mem_of_getElem? (i := 3) rfl)) (by decide) (by decide)) q116a q116c (g := (mkF m 309 #[.val (.int p1), .val (.int p2), .val (.int p3), .val (.int p4), .val (.int p5), .val (.int p6), .val (.int xn), .val (.int c0), .val (.int d1), .val (.int xe), .val (.int c1), .val (.int c2), .val (.int xv), .val (.int (0 : Int32)), .val (.ref b21), .val (.int (1 : Int32)), .val (.int x16), .val (.int c0), .val (.int c2), .val (.int c1)] [(.ref b21)])) rfl (by rw [hml]; rfl) (Steps.refl _) (argsL := []) (rest := []) (lenOf pd_0_2 rfl) rfl (by show 2 * 0 + _ ≤ _; exact Nat.le_of_eq rfl) (hb hby at_309) (fun _ _ => ⟨rfl, rfl, (by decide : 7 + 0 ≤ _), (by decide : 63 + 0 ≤ _)⟩)
    dsimp only [Pt.U, Pt.locs, Pt.cells, Pt.slots] at X116 l116 y116 z116 st116 hQ116
    subst l116 y116 z116
    obtain ⟨rfl, N116q, hh116⟩ := hQ116
    have N116 := Fr.app N111 N116q
    have pre117 : own_Go p e below (s₁.setTop (entryFrame m #[(.int p1), (.int p2), (.int p3), (.int p4), (.int p5), (.int p6)] maxLocals)) (T116.setTop (mkF m 312 #[.val (.int p1), .val (.int p2), .val (.int p3), .val (.int p4), .val (.int p5), .val (.int p6), .val (.int xn), .val (.int c0), .val (.int d1), .val (.int xe), .val (.int c1), .val (.int c2), .val (.int xv), .val (.int (0 : Int32)), .val (.ref b21), .val (.int (1 : Int32)), .val (.int x16), .val (.int c0), .val (.int c2), .val (.int c1)] [(.int (2 : Int32))])) := fun t k => pre115 t (st116.trans k)
    have F_118 := Fm111
    rw [← hh116] at F_118
    have F_119 := Fp111
    rw [← hh116] at F_119
    have F_120 := Fh111
    rw [← hh116] at F_120
    have F_121 := Fs111
    rw [← hh116] at F_121
    have Ex_122 := Ex_113
    rw [← hh116] at Ex_122
    have V_123 := Vm111
    rw [← hh116] at V_123
    have K_124 := K_114
    rw [← hh116] at K_124
    have Zh12 : n0 ≤ T116.heap.size := Nat.le_trans Z0 K_124.1
    have pre125 : own_Go p e below (s₁.setTop (entryFrame m #[(.int p1), (.int p2), (.int p3), (.int p4), (.int p5), (.int p6)] maxLocals)) (T116.setTop (mkF m 319 #[.val (.int p1), .val (.int p2), .val (.int p3), .val (.int p4), .val (.int p5), .val (.int p6), .val (.int xn), .val (.int c0), .val (.int d1), .val (.int xe), .val (.int c1), .val (.int c2), .val (.int xv), .val (.int (0 : Int32)), .val (.ref b21), .val (.int (1 : Int32)), .val (.int x16), .val (.int c0), .val (.int c2), .val (.int c1)] [(.int (0 : Int32)), (.ref b21)])) := fun t k => pre117 t (by
        show Steps p.tables e below (T116.setTop (mkF m 312 #[.val (.int p1), .val (.int p2), .val (.int p3), .val (.int p4), .val (.int p5), .val (.int p6), .val (.int xn), .val (.int c0), .val (.int d1), .val (.int xe), .val (.int c1), .val (.int c2), .val (.int xv), .val (.int (0 : Int32)), .val (.ref b21), .val (.int (1 : Int32)), .val (.int x16), .val (.int c0), .val (.int c2), .val (.int c1)] [(.int (2 : Int32))])) _
        refine XS.iconst X116.here hx rfl (hb hby at_312) ?_
        show Steps p.tables e below (T116.setTop (mkF m 313 #[.val (.int p1), .val (.int p2), .val (.int p3), .val (.int p4), .val (.int p5), .val (.int p6), .val (.int xn), .val (.int c0), .val (.int d1), .val (.int xe), .val (.int c1), .val (.int c2), .val (.int xv), .val (.int (0 : Int32)), .val (.ref b21), .val (.int (1 : Int32)), .val (.int x16), .val (.int c0), .val (.int c2), .val (.int c1)] [(.int (2 : Int32)), (.int (2 : Int32))])) _
        refine XS.icmpNo X116.here hx rfl (hb hby at_313) rfl (XT.ii_ne_f (by decide)) ?_
        show Steps p.tables e below (T116.setTop (mkF m 316 #[.val (.int p1), .val (.int p2), .val (.int p3), .val (.int p4), .val (.int p5), .val (.int p6), .val (.int xn), .val (.int c0), .val (.int d1), .val (.int xe), .val (.int c1), .val (.int c2), .val (.int xv), .val (.int (0 : Int32)), .val (.ref b21), .val (.int (1 : Int32)), .val (.int x16), .val (.int c0), .val (.int c2), .val (.int c1)] [])) _
        refine XS.aload X116.here hx rfl (hb hby at_316) rfl rfl ?_
        show Steps p.tables e below (T116.setTop (mkF m 318 #[.val (.int p1), .val (.int p2), .val (.int p3), .val (.int p4), .val (.int p5), .val (.int p6), .val (.int xn), .val (.int c0), .val (.int d1), .val (.int xe), .val (.int c1), .val (.int c2), .val (.int xv), .val (.int (0 : Int32)), .val (.ref b21), .val (.int (1 : Int32)), .val (.int x16), .val (.int c0), .val (.int c2), .val (.int c1)] [(.ref b21)])) _
        refine XS.iconst X116.here hx rfl (hb hby at_318) ?_
        exact k)
    obtain ⟨cq126, kq126, q126a, q126b, q126c⟩ := isOf hZ rfl Ex_122
    obtain ⟨_, _, ⟨T126, L126, k126, n126⟩, -, X126, ⟨Lc126, hQ126, l126, y126, z126⟩, st126⟩ := X116.virtualBack hx (y := (⟨"com/example/fickle/fickle/engine/LeapingChannels", "get", "(I)I"⟩ : MethodName)) (z := (⟨"com/example/fickle/fickle/engine/LeapingChannels", "get", "(I)I"⟩ : MethodName)) hown (mvT hZ (hw _ (List.mem_of_getElem? (i := 37) rfl))) (mvT hZ (hw _ (List.mem_of_getElem? (i := 38) rfl))) (notFace_of_selects (args := #[]) (mvT hZ (hw _ (List.mem_of_getElem? (i := 40) rfl)))) (mvT hZ (hw _ (List.mem_of_getElem? (i := 40) rfl))) (mvT hZ (hw _ (List.mem_of_getElem? (i := 39) rfl))) (by decide) (backOf (W := 0) (rm4 l Z a0 hw [] b21 am (0 : Int32) xn c2 _ T116.heap n0 Zh12 F_118 V_123 (by decide) hb0 (own_upd_hit _ _ rfl)) hZ (hw _ (List.mem_of_getElem? (i := 41) rfl)) (hw _ (List.mem_of_getElem? (i := 3) rfl)) (by decide) (by decide)) q126a q126c (g := (mkF m 319 #[.val (.int p1), .val (.int p2), .val (.int p3), .val (.int p4), .val (.int p5), .val (.int p6), .val (.int xn), .val (.int c0), .val (.int d1), .val (.int xe), .val (.int c1), .val (.int c2), .val (.int xv), .val (.int (0 : Int32)), .val (.ref b21), .val (.int (1 : Int32)), .val (.int x16), .val (.int c0), .val (.int c2), .val (.int c1)] [(.int (0 : Int32)), (.ref b21)])) rfl (by rw [hml]; rfl) (Steps.refl _) (argsL := [(.int (0 : Int32))]) (rest := []) (lenOf pd_0_3 rfl) rfl (by show 2 * 0 + _ ≤ _; exact Nat.le_of_eq rfl) (hb hby at_319) (fun _ _ => ⟨rfl, rfl, (by decide : 7 + 0 ≤ _), (by decide : 63 + 0 ≤ _)⟩)
    dsimp only [Pt.U, Pt.locs, Pt.cells, Pt.slots] at X126 l126 y126 z126 st126 hQ126
    subst l126 y126 z126
    obtain ⟨rfl, N126q, hh126⟩ := hQ126
    have N126 := Fr.app N116 N126q
    have pre127 : own_Go p e below (s₁.setTop (entryFrame m #[(.int p1), (.int p2), (.int p3), (.int p4), (.int p5), (.int p6)] maxLocals)) (T126.setTop (mkF m 322 #[.val (.int p1), .val (.int p2), .val (.int p3), .val (.int p4), .val (.int p5), .val (.int p6), .val (.int xn), .val (.int c0), .val (.int d1), .val (.int xe), .val (.int c1), .val (.int c2), .val (.int xv), .val (.int (0 : Int32)), .val (.ref b21), .val (.int (1 : Int32)), .val (.int x16), .val (.int c0), .val (.int c2), .val (.int c1)] [(.int c2)])) := fun t k => pre125 t (st126.trans k)
    have F_128 := F_118
    rw [← hh126] at F_128
    have F_129 := F_119
    rw [← hh126] at F_129
    have F_130 := F_120
    rw [← hh126] at F_130
    have F_131 := F_121
    rw [← hh126] at F_131
    have Ex_132 := Ex_122
    rw [← hh126] at Ex_132
    have V_133 := V_123
    rw [← hh126] at V_133
    have K_134 := K_124
    rw [← hh126] at K_134
    have Zh13 : n0 ≤ T126.heap.size := Nat.le_trans Z0 K_134.1
    have pre135 : own_Go p e below (s₁.setTop (entryFrame m #[(.int p1), (.int p2), (.int p3), (.int p4), (.int p5), (.int p6)] maxLocals)) (T126.setTop (mkF m 330 #[.val (.int p1), .val (.int p2), .val (.int p3), .val (.int p4), .val (.int p5), .val (.int p6), .val (.int xn), .val (.int c0), .val (.int d1), .val (.int xe), .val (.int c1), .val (.int c2), .val (.int xv), .val (.int (0 : Int32)), .val (.ref b21), .val (.int (1 : Int32)), .val (.int x16), .val (.int c0), .val (.int c2), .val (.int c1)] [(.int (1 : Int32)), (.ref b21)])) := fun t k => pre127 t (by
        show Steps p.tables e below (T126.setTop (mkF m 322 #[.val (.int p1), .val (.int p2), .val (.int p3), .val (.int p4), .val (.int p5), .val (.int p6), .val (.int xn), .val (.int c0), .val (.int d1), .val (.int xe), .val (.int c1), .val (.int c2), .val (.int xv), .val (.int (0 : Int32)), .val (.ref b21), .val (.int (1 : Int32)), .val (.int x16), .val (.int c0), .val (.int c2), .val (.int c1)] [(.int c2)])) _
        refine XS.iload X126.here hx rfl (hb hby at_322) rfl ?_
        show Steps p.tables e below (T126.setTop (mkF m 324 #[.val (.int p1), .val (.int p2), .val (.int p3), .val (.int p4), .val (.int p5), .val (.int p6), .val (.int xn), .val (.int c0), .val (.int d1), .val (.int xe), .val (.int c1), .val (.int c2), .val (.int xv), .val (.int (0 : Int32)), .val (.ref b21), .val (.int (1 : Int32)), .val (.int x16), .val (.int c0), .val (.int c2), .val (.int c1)] [(.int c2), (.int c2)])) _
        refine XS.icmpNo X126.here hx rfl (hb hby at_324) rfl (XT.ii_ne_f rfl) ?_
        show Steps p.tables e below (T126.setTop (mkF m 327 #[.val (.int p1), .val (.int p2), .val (.int p3), .val (.int p4), .val (.int p5), .val (.int p6), .val (.int xn), .val (.int c0), .val (.int d1), .val (.int xe), .val (.int c1), .val (.int c2), .val (.int xv), .val (.int (0 : Int32)), .val (.ref b21), .val (.int (1 : Int32)), .val (.int x16), .val (.int c0), .val (.int c2), .val (.int c1)] [])) _
        refine XS.aload X126.here hx rfl (hb hby at_327) rfl rfl ?_
        show Steps p.tables e below (T126.setTop (mkF m 329 #[.val (.int p1), .val (.int p2), .val (.int p3), .val (.int p4), .val (.int p5), .val (.int p6), .val (.int xn), .val (.int c0), .val (.int d1), .val (.int xe), .val (.int c1), .val (.int c2), .val (.int xv), .val (.int (0 : Int32)), .val (.ref b21), .val (.int (1 : Int32)), .val (.int x16), .val (.int c0), .val (.int c2), .val (.int c1)] [(.ref b21)])) _
        refine XS.iconst X126.here hx rfl (hb hby at_329) ?_
        exact k)
    obtain ⟨cq136, kq136, q136a, q136b, q136c⟩ := isOf hZ rfl Ex_132
    obtain ⟨_, _, ⟨T136, L136, k136, n136⟩, -, X136, ⟨Lc136, hQ136, l136, y136, z136⟩, st136⟩ := X126.virtualBack hx (y := (⟨"com/example/fickle/fickle/engine/LeapingChannels", "get", "(I)I"⟩ : MethodName)) (z := (⟨"com/example/fickle/fickle/engine/LeapingChannels", "get", "(I)I"⟩ : MethodName)) hown (mvT hZ (hw _ (List.mem_of_getElem? (i := 37) rfl))) (mvT hZ (hw _ (List.mem_of_getElem? (i := 38) rfl))) (notFace_of_selects (args := #[]) (mvT hZ (hw _ (List.mem_of_getElem? (i := 40) rfl)))) (mvT hZ (hw _ (List.mem_of_getElem? (i := 40) rfl))) (mvT hZ (hw _ (List.mem_of_getElem? (i := 39) rfl))) (by decide) (backOf (W := 0) (rm4 l Z a0 hw [] b21 am (1 : Int32) xn c1 _ T126.heap n0 Zh13 F_128 V_133 (by decide) hb1 ((own_upd_miss _ _ (by decide)).trans ((own_upd_miss _ _ (by decide)).trans (own_upd_hit _ _ rfl)))) hZ (hw _ (List.mem_of_getElem? (i := 41) rfl)) (hw _ (List.mem_of_getElem? (i := 3) rfl)) (by decide) (by decide)) q136a q136c (g := (mkF m 330 #[.val (.int p1), .val (.int p2), .val (.int p3), .val (.int p4), .val (.int p5), .val (.int p6), .val (.int xn), .val (.int c0), .val (.int d1), .val (.int xe), .val (.int c1), .val (.int c2), .val (.int xv), .val (.int (0 : Int32)), .val (.ref b21), .val (.int (1 : Int32)), .val (.int x16), .val (.int c0), .val (.int c2), .val (.int c1)] [(.int (1 : Int32)), (.ref b21)])) rfl (by rw [hml]; rfl) (Steps.refl _) (argsL := [(.int (1 : Int32))]) (rest := []) (lenOf pd_0_3 rfl) rfl (by show 2 * 0 + _ ≤ _; exact Nat.le_of_eq rfl) (hb hby at_330) (fun _ _ => ⟨rfl, rfl, (by decide : 7 + 0 ≤ _), (by decide : 63 + 0 ≤ _)⟩)
    dsimp only [Pt.U, Pt.locs, Pt.cells, Pt.slots] at X136 l136 y136 z136 st136 hQ136
    subst l136 y136 z136
    obtain ⟨rfl, N136q, hh136⟩ := hQ136
    have N136 := Fr.app N126 N136q
    have pre137 : own_Go p e below (s₁.setTop (entryFrame m #[(.int p1), (.int p2), (.int p3), (.int p4), (.int p5), (.int p6)] maxLocals)) (T136.setTop (mkF m 333 #[.val (.int p1), .val (.int p2), .val (.int p3), .val (.int p4), .val (.int p5), .val (.int p6), .val (.int xn), .val (.int c0), .val (.int d1), .val (.int xe), .val (.int c1), .val (.int c2), .val (.int xv), .val (.int (0 : Int32)), .val (.ref b21), .val (.int (1 : Int32)), .val (.int x16), .val (.int c0), .val (.int c2), .val (.int c1)] [(.int c1)])) := fun t k => pre135 t (st136.trans k)
    have F_138 := F_128
    rw [← hh136] at F_138
    have F_139 := F_129
    rw [← hh136] at F_139
    have F_140 := F_130
    rw [← hh136] at F_140
    have F_141 := F_131
    rw [← hh136] at F_141
    have Ex_142 := Ex_132
    rw [← hh136] at Ex_142
    have V_143 := V_133
    rw [← hh136] at V_143
    have K_144 := K_134
    rw [← hh136] at K_144
    have pre145 : own_Go p e below (s₁.setTop (entryFrame m #[(.int p1), (.int p2), (.int p3), (.int p4), (.int p5), (.int p6)] maxLocals)) (T136.setTop (mkF m 347 #[.val (.int p1), .val (.int p2), .val (.int p3), .val (.int p4), .val (.int p5), .val (.int p6), .val (.int xn), .val (.int c0), .val (.int d1), .val (.int xe), .val (.int c1), .val (.int c2), .val (.int xv), .val (.int (0 : Int32)), .val (.ref b21), .val (.int (1 : Int32)), .val (.int x16), .val (.int c0), .val (.int c2), .val (.int c1)] [(.int (1 : Int32))])) := fun t k => pre137 t (by
        show Steps p.tables e below (T136.setTop (mkF m 333 #[.val (.int p1), .val (.int p2), .val (.int p3), .val (.int p4), .val (.int p5), .val (.int p6), .val (.int xn), .val (.int c0), .val (.int d1), .val (.int xe), .val (.int c1), .val (.int c2), .val (.int xv), .val (.int (0 : Int32)), .val (.ref b21), .val (.int (1 : Int32)), .val (.int x16), .val (.int c0), .val (.int c2), .val (.int c1)] [(.int c1)])) _
        refine XS.iload X136.here hx rfl (hb hby at_333) rfl ?_
        show Steps p.tables e below (T136.setTop (mkF m 335 #[.val (.int p1), .val (.int p2), .val (.int p3), .val (.int p4), .val (.int p5), .val (.int p6), .val (.int xn), .val (.int c0), .val (.int d1), .val (.int xe), .val (.int c1), .val (.int c2), .val (.int xv), .val (.int (0 : Int32)), .val (.ref b21), .val (.int (1 : Int32)), .val (.int x16), .val (.int c0), .val (.int c2), .val (.int c1)] [(.int c1), (.int c1)])) _
        refine XS.icmpNo X136.here hx rfl (hb hby at_335) rfl (XT.ii_ne_f rfl) ?_
        show Steps p.tables e below (T136.setTop (mkF m 338 #[.val (.int p1), .val (.int p2), .val (.int p3), .val (.int p4), .val (.int p5), .val (.int p6), .val (.int xn), .val (.int c0), .val (.int d1), .val (.int xe), .val (.int c1), .val (.int c2), .val (.int xv), .val (.int (0 : Int32)), .val (.ref b21), .val (.int (1 : Int32)), .val (.int x16), .val (.int c0), .val (.int c2), .val (.int c1)] [])) _
        refine XS.iconst X136.here hx rfl (hb hby at_338) ?_
        show Steps p.tables e below (T136.setTop (mkF m 339 #[.val (.int p1), .val (.int p2), .val (.int p3), .val (.int p4), .val (.int p5), .val (.int p6), .val (.int xn), .val (.int c0), .val (.int d1), .val (.int xe), .val (.int c1), .val (.int c2), .val (.int xv), .val (.int (0 : Int32)), .val (.ref b21), .val (.int (1 : Int32)), .val (.int x16), .val (.int c0), .val (.int c2), .val (.int c1)] [(.int (1 : Int32))])) _
        refine XS.goto X136.here hx rfl (pc0 := 339) (pc' := 343) rfl (hb hby at_339) (by decide) (by decide) ?_
        show Steps p.tables e below (T136.setTop (mkF m 343 #[.val (.int p1), .val (.int p2), .val (.int p3), .val (.int p4), .val (.int p5), .val (.int p6), .val (.int xn), .val (.int c0), .val (.int d1), .val (.int xe), .val (.int c1), .val (.int c2), .val (.int xv), .val (.int (0 : Int32)), .val (.ref b21), .val (.int (1 : Int32)), .val (.int x16), .val (.int c0), .val (.int c2), .val (.int c1)] [(.int (1 : Int32))])) _
        refine XS.istore X136.here hx rfl (hb hby at_343) rfl (l' := #[.val (.int p1), .val (.int p2), .val (.int p3), .val (.int p4), .val (.int p5), .val (.int p6), .val (.int xn), .val (.int c0), .val (.int d1), .val (.int xe), .val (.int c1), .val (.int c2), .val (.int xv), .val (.int (0 : Int32)), .val (.ref b21), .val (.int (1 : Int32)), .val (.int x16), .val (.int c0), .val (.int c2), .val (.int c1)]) rfl ?_
        show Steps p.tables e below (T136.setTop (mkF m 345 #[.val (.int p1), .val (.int p2), .val (.int p3), .val (.int p4), .val (.int p5), .val (.int p6), .val (.int xn), .val (.int c0), .val (.int d1), .val (.int xe), .val (.int c1), .val (.int c2), .val (.int xv), .val (.int (0 : Int32)), .val (.ref b21), .val (.int (1 : Int32)), .val (.int x16), .val (.int c0), .val (.int c2), .val (.int c1)] [])) _
        refine XS.iload X136.here hx rfl (hb hby at_345) rfl ?_
        exact k)
    obtain ⟨fs, hr, hrun, hended, hW, hsame⟩ := X136.leave (v := some (.int (1 : Int32))) (fun h => by rw [Bd.returns] at h; cases h)
    refine ⟨_, _, pre145 _ ?_, hrun, hended, _, _, rfl, ?_, ⟨_, rfl⟩, hW, hsame.mono (by decide) (by decide)⟩
    · show Steps p.tables e below (T136.setTop (mkF m 347 #[.val (.int p1), .val (.int p2), .val (.int p3), .val (.int p4), .val (.int p5), .val (.int p6), .val (.int xn), .val (.int c0), .val (.int d1), .val (.int xe), .val (.int c1), .val (.int c2), .val (.int xv), .val (.int (0 : Int32)), .val (.ref b21), .val (.int (1 : Int32)), .val (.int x16), .val (.int c0), .val (.int c2), .val (.int c1)] [(.int (1 : Int32))])) _
      exact retN X136 hx (t := .boolean) Bd.returns (by simp) (hb hby at_347) hr
    · show Q0 Z p1 p2 p3 p4 p5 p6 h0 n0 _ T136.heap _
      exact ⟨rfl, N136⟩
  · skip
    have Zh14 : n0 ≤ T98.heap.size := Nat.le_trans Z0 K_108.1
    have pre146 : own_Go p e below (s₁.setTop (entryFrame m #[(.int p1), (.int p2), (.int p3), (.int p4), (.int p5), (.int p6)] maxLocals)) (T98.setTop (mkF m 270 #[.val (.int p1), .val (.int p2), .val (.int p3), .val (.int p4), .val (.int p5), .val (.int p6), .val (.int xn), .val (.int c0), .val (.int d1), .val (.int xe), .val (.int c1), .val (.int c2), .val (.int xv), .val (.int (1 : Int32)), .val (.ref b21), .val (.int (1 : Int32)), .val (.int x16), .val (.int c1), .unset, .unset] [(.int c1), (.ref b21)])) := fun t k => pre109 t (by
        show Steps p.tables e below (T98.setTop (mkF m 241 #[.val (.int p1), .val (.int p2), .val (.int p3), .val (.int p4), .val (.int p5), .val (.int p6), .val (.int xn), .val (.int c0), .val (.int d1), .val (.int xe), .val (.int c1), .val (.int c2), .val (.int xv), .val (.int (1 : Int32)), .val (.ref b21), .val (.int (1 : Int32)), .val (.int x16), .unset, .unset, .unset] [])) _
        refine XS.iload X98.here hx rfl (hb hby at_241) rfl ?_
        show Steps p.tables e below (T98.setTop (mkF m 243 #[.val (.int p1), .val (.int p2), .val (.int p3), .val (.int p4), .val (.int p5), .val (.int p6), .val (.int xn), .val (.int c0), .val (.int d1), .val (.int xe), .val (.int c1), .val (.int c2), .val (.int xv), .val (.int (1 : Int32)), .val (.ref b21), .val (.int (1 : Int32)), .val (.int x16), .unset, .unset, .unset] [(.int (1 : Int32))])) _
        refine XS.ifYes X98.here hx rfl (pc0 := 243) (pc' := 251) rfl (hb hby at_243) rfl (XT.i0_ne_t (by decide)) (by decide) (by decide) ?_
        show Steps p.tables e below (T98.setTop (mkF m 251 #[.val (.int p1), .val (.int p2), .val (.int p3), .val (.int p4), .val (.int p5), .val (.int p6), .val (.int xn), .val (.int c0), .val (.int d1), .val (.int xe), .val (.int c1), .val (.int c2), .val (.int xv), .val (.int (1 : Int32)), .val (.ref b21), .val (.int (1 : Int32)), .val (.int x16), .unset, .unset, .unset] [])) _
        refine XS.iload X98.here hx rfl (hb hby at_251) rfl ?_
        show Steps p.tables e below (T98.setTop (mkF m 253 #[.val (.int p1), .val (.int p2), .val (.int p3), .val (.int p4), .val (.int p5), .val (.int p6), .val (.int xn), .val (.int c0), .val (.int d1), .val (.int xe), .val (.int c1), .val (.int c2), .val (.int xv), .val (.int (1 : Int32)), .val (.ref b21), .val (.int (1 : Int32)), .val (.int x16), .unset, .unset, .unset] [(.int (1 : Int32))])) _
        refine XS.iconst X98.here hx rfl (hb hby at_253) ?_
        show Steps p.tables e below (T98.setTop (mkF m 254 #[.val (.int p1), .val (.int p2), .val (.int p3), .val (.int p4), .val (.int p5), .val (.int p6), .val (.int xn), .val (.int c0), .val (.int d1), .val (.int xe), .val (.int c1), .val (.int c2), .val (.int xv), .val (.int (1 : Int32)), .val (.ref b21), .val (.int (1 : Int32)), .val (.int x16), .unset, .unset, .unset] [(.int (1 : Int32)), (.int (1 : Int32))])) _
        refine XS.icmpNo X98.here hx rfl (hb hby at_254) rfl (XT.ii_ne_f (by decide)) ?_
        show Steps p.tables e below (T98.setTop (mkF m 257 #[.val (.int p1), .val (.int p2), .val (.int p3), .val (.int p4), .val (.int p5), .val (.int p6), .val (.int xn), .val (.int c0), .val (.int d1), .val (.int xe), .val (.int c1), .val (.int c2), .val (.int xv), .val (.int (1 : Int32)), .val (.ref b21), .val (.int (1 : Int32)), .val (.int x16), .unset, .unset, .unset] [])) _
        refine XS.iload X98.here hx rfl (hb hby at_257) rfl ?_
        show Steps p.tables e below (T98.setTop (mkF m 259 #[.val (.int p1), .val (.int p2), .val (.int p3), .val (.int p4), .val (.int p5), .val (.int p6), .val (.int xn), .val (.int c0), .val (.int d1), .val (.int xe), .val (.int c1), .val (.int c2), .val (.int xv), .val (.int (1 : Int32)), .val (.ref b21), .val (.int (1 : Int32)), .val (.int x16), .unset, .unset, .unset] [(.int c1)])) _
        refine XS.goto X98.here hx rfl (pc0 := 259) (pc' := 264) rfl (hb hby at_259) (by decide) (by decide) ?_
        show Steps p.tables e below (T98.setTop (mkF m 264 #[.val (.int p1), .val (.int p2), .val (.int p3), .val (.int p4), .val (.int p5), .val (.int p6), .val (.int xn), .val (.int c0), .val (.int d1), .val (.int xe), .val (.int c1), .val (.int c2), .val (.int xv), .val (.int (1 : Int32)), .val (.ref b21), .val (.int (1 : Int32)), .val (.int x16), .unset, .unset, .unset] [(.int c1)])) _
        refine XS.istore X98.here hx rfl (hb hby at_264) rfl (l' := #[.val (.int p1), .val (.int p2), .val (.int p3), .val (.int p4), .val (.int p5), .val (.int p6), .val (.int xn), .val (.int c0), .val (.int d1), .val (.int xe), .val (.int c1), .val (.int c2), .val (.int xv), .val (.int (1 : Int32)), .val (.ref b21), .val (.int (1 : Int32)), .val (.int x16), .val (.int c1), .unset, .unset]) rfl ?_
        show Steps p.tables e below (T98.setTop (mkF m 266 #[.val (.int p1), .val (.int p2), .val (.int p3), .val (.int p4), .val (.int p5), .val (.int p6), .val (.int xn), .val (.int c0), .val (.int d1), .val (.int xe), .val (.int c1), .val (.int c2), .val (.int xv), .val (.int (1 : Int32)), .val (.ref b21), .val (.int (1 : Int32)), .val (.int x16), .val (.int c1), .unset, .unset] [])) _
        refine XS.aload X98.here hx rfl (hb hby at_266) rfl rfl ?_
        show Steps p.tables e below (T98.setTop (mkF m 268 #[.val (.int p1), .val (.int p2), .val (.int p3), .val (.int p4), .val (.int p5), .val (.int p6), .val (.int xn), .val (.int c0), .val (.int d1), .val (.int xe), .val (.int c1), .val (.int c2), .val (.int xv), .val (.int (1 : Int32)), .val (.ref b21), .val (.int (1 : Int32)), .val (.int x16), .val (.int c1), .unset, .unset] [(.ref b21)])) _
        refine XS.iload X98.here hx rfl (hb hby at_268) rfl ?_
        exact k)
    obtain ⟨cq147, kq147, q147a, q147b, q147c⟩ := isOf hZ rfl Ex_104
    obtain ⟨_, _, ⟨T147, L147, k147, n147⟩, -, X147, ⟨Lc147, hQ147, l147, y147, z147⟩, st147⟩ := X98.virtualBack hx (y := (⟨"com/example/fickle/fickle/engine/LeapingChannels", "remove", "(I)V"⟩ : MethodName)) (z := (⟨"com/example/fickle/fickle/engine/LeapingChannels", "remove", "(I)V"⟩ : MethodName)) hown (mvT hZ (hw _ (List.mem_of_getElem? (i := 47) rfl))) (mvT hZ (hw _ (List.mem_of_getElem? (i := 48) rfl))) (notFace_of_selects (args := #[]) (mvT hZ (hw _ (List.mem_of_getElem? (i := 50) rfl)))) (mvT hZ (hw _ (List.mem_of_getElem? (i := 50) rfl))) (mvT hZ (hw _ (List.mem_of_getElem? (i := 49) rfl))) (by decide) (backOf (W := 0) (rm6 l Z a0 hw [] c1 b21 am ap ah (3 : Int32) xn _ _ _ (2 : Int32) c2 (1 : Int32) T98.heap n0 Zh14 F_100 F_101 F_102 F_103 V_105 V_106 V_107 Ex_104 g_b21 g_am g_ap g_ah ne_am ne_ap ne_ah nmp nmh nph (by decide) (by decide) hb2 c1_0 c1_n (own_upd_hit _ _ rfl) c2_0 c2_n ((own_upd_miss _ _ (own_nn c1_0 c2_0 n12)).trans (own_upd_hit _ _ rfl)) (by decide) hb1) hZ (hw _ (List.mem_of_getElem? (i := 51) rfl)) (hw _ (List.mem_of_getElem? (i := 3) rfl)) (by decide) (by decide)) q147a q147c (g := (mkF m 270 #[.val (.int p1), .val (.int p2), .val (.int p3), .val (.int p4), .val (.int p5), .val (.int p6), .val (.int xn), .val (.int c0), .val (.int d1), .val (.int xe), .val (.int c1), .val (.int c2), .val (.int xv), .val (.int (1 : Int32)), .val (.ref b21), .val (.int (1 : Int32)), .val (.int x16), .val (.int c1), .unset, .unset] [(.int c1), (.ref b21)])) rfl (by rw [hml]; rfl) (Steps.refl _) (argsL := [(.int c1)]) (rest := []) (lenOf pd_0_1 rfl) rfl (by show 2 * 0 + _ ≤ _; exact Nat.le_of_eq rfl) (hb hby at_270) (fun _ _ => ⟨rfl, rfl, (by decide : 7 + 0 ≤ _), (by decide : 63 + 0 ≤ _)⟩)
    dsimp only [Pt.U, Pt.locs, Pt.cells, Pt.slots] at X147 l147 y147 z147 st147 hQ147
    subst l147 y147 z147
    obtain ⟨rfl, N147q, K147, Fm147, Fp147, Fh147, Fs147, Vm147⟩ := hQ147
    have N147 := Fr.app N98 N147q
    have pre148 : own_Go p e below (s₁.setTop (entryFrame m #[(.int p1), (.int p2), (.int p3), (.int p4), (.int p5), (.int p6)] maxLocals)) (T147.setTop (mkF m 273 #[.val (.int p1), .val (.int p2), .val (.int p3), .val (.int p4), .val (.int p5), .val (.int p6), .val (.int xn), .val (.int c0), .val (.int d1), .val (.int xe), .val (.int c1), .val (.int c2), .val (.int xv), .val (.int (1 : Int32)), .val (.ref b21), .val (.int (1 : Int32)), .val (.int x16), .val (.int c1), .unset, .unset] [])) := fun t k => pre146 t (st147.trans k)
    have Ex_149 := Ex_104.keep K147
    have K_150 := K_108.trans K147 (allS (Or.inr sz_b21) (allS (Or.inr sz_am) (allS (Or.inr sz_ap) (allS (Or.inr sz_ah) all0))))
    have Zh15 : n0 ≤ T147.heap.size := Nat.le_trans Z0 K_150.1
    have pre151 : own_Go p e below (s₁.setTop (entryFrame m #[(.int p1), (.int p2), (.int p3), (.int p4), (.int p5), (.int p6)] maxLocals)) (T147.setTop (mkF m 309 #[.val (.int p1), .val (.int p2), .val (.int p3), .val (.int p4), .val (.int p5), .val (.int p6), .val (.int xn), .val (.int c0), .val (.int d1), .val (.int xe), .val (.int c1), .val (.int c2), .val (.int xv), .val (.int (1 : Int32)), .val (.ref b21), .val (.int (1 : Int32)), .val (.int x16), .val (.int c1), .val (.int c0), .val (.int c2)] [(.ref b21)])) := fun t k => pre148 t (by
        show Steps p.tables e below (T147.setTop (mkF m 273 #[.val (.int p1), .val (.int p2), .val (.int p3), .val (.int p4), .val (.int p5), .val (.int p6), .val (.int xn), .val (.int c0), .val (.int d1), .val (.int xe), .val (.int c1), .val (.int c2), .val (.int xv), .val (.int (1 : Int32)), .val (.ref b21), .val (.int (1 : Int32)), .val (.int x16), .val (.int c1), .unset, .unset] [])) _
        refine XS.iload X147.here hx rfl (hb hby at_273) rfl ?_
        show Steps p.tables e below (T147.setTop (mkF m 275 #[.val (.int p1), .val (.int p2), .val (.int p3), .val (.int p4), .val (.int p5), .val (.int p6), .val (.int xn), .val (.int c0), .val (.int d1), .val (.int xe), .val (.int c1), .val (.int c2), .val (.int xv), .val (.int (1 : Int32)), .val (.ref b21), .val (.int (1 : Int32)), .val (.int x16), .val (.int c1), .unset, .unset] [(.int (1 : Int32))])) _
        refine XS.ifYes X147.here hx rfl (pc0 := 275) (pc' := 283) rfl (hb hby at_275) rfl (XT.i0_ne_t (by decide)) (by decide) (by decide) ?_
        show Steps p.tables e below (T147.setTop (mkF m 283 #[.val (.int p1), .val (.int p2), .val (.int p3), .val (.int p4), .val (.int p5), .val (.int p6), .val (.int xn), .val (.int c0), .val (.int d1), .val (.int xe), .val (.int c1), .val (.int c2), .val (.int xv), .val (.int (1 : Int32)), .val (.ref b21), .val (.int (1 : Int32)), .val (.int x16), .val (.int c1), .unset, .unset] [])) _
        refine XS.iload X147.here hx rfl (hb hby at_283) rfl ?_
        show Steps p.tables e below (T147.setTop (mkF m 285 #[.val (.int p1), .val (.int p2), .val (.int p3), .val (.int p4), .val (.int p5), .val (.int p6), .val (.int xn), .val (.int c0), .val (.int d1), .val (.int xe), .val (.int c1), .val (.int c2), .val (.int xv), .val (.int (1 : Int32)), .val (.ref b21), .val (.int (1 : Int32)), .val (.int x16), .val (.int c1), .unset, .unset] [(.int c0)])) _
        refine XS.istore X147.here hx rfl (hb hby at_285) rfl (l' := #[.val (.int p1), .val (.int p2), .val (.int p3), .val (.int p4), .val (.int p5), .val (.int p6), .val (.int xn), .val (.int c0), .val (.int d1), .val (.int xe), .val (.int c1), .val (.int c2), .val (.int xv), .val (.int (1 : Int32)), .val (.ref b21), .val (.int (1 : Int32)), .val (.int x16), .val (.int c1), .val (.int c0), .unset]) rfl ?_
        show Steps p.tables e below (T147.setTop (mkF m 287 #[.val (.int p1), .val (.int p2), .val (.int p3), .val (.int p4), .val (.int p5), .val (.int p6), .val (.int xn), .val (.int c0), .val (.int d1), .val (.int xe), .val (.int c1), .val (.int c2), .val (.int xv), .val (.int (1 : Int32)), .val (.ref b21), .val (.int (1 : Int32)), .val (.int x16), .val (.int c1), .val (.int c0), .unset] [])) _
        refine XS.iload X147.here hx rfl (hb hby at_287) rfl ?_
        show Steps p.tables e below (T147.setTop (mkF m 289 #[.val (.int p1), .val (.int p2), .val (.int p3), .val (.int p4), .val (.int p5), .val (.int p6), .val (.int xn), .val (.int c0), .val (.int d1), .val (.int xe), .val (.int c1), .val (.int c2), .val (.int xv), .val (.int (1 : Int32)), .val (.ref b21), .val (.int (1 : Int32)), .val (.int x16), .val (.int c1), .val (.int c0), .unset] [(.int (1 : Int32))])) _
        refine XS.iconst X147.here hx rfl (hb hby at_289) ?_
        show Steps p.tables e below (T147.setTop (mkF m 290 #[.val (.int p1), .val (.int p2), .val (.int p3), .val (.int p4), .val (.int p5), .val (.int p6), .val (.int xn), .val (.int c0), .val (.int d1), .val (.int xe), .val (.int c1), .val (.int c2), .val (.int xv), .val (.int (1 : Int32)), .val (.ref b21), .val (.int (1 : Int32)), .val (.int x16), .val (.int c1), .val (.int c0), .unset] [(.int (1 : Int32)), (.int (1 : Int32))])) _
        refine XS.icmpNo X147.here hx rfl (hb hby at_290) rfl (XT.ii_ne_f (by decide)) ?_
        show Steps p.tables e below (T147.setTop (mkF m 293 #[.val (.int p1), .val (.int p2), .val (.int p3), .val (.int p4), .val (.int p5), .val (.int p6), .val (.int xn), .val (.int c0), .val (.int d1), .val (.int xe), .val (.int c1), .val (.int c2), .val (.int xv), .val (.int (1 : Int32)), .val (.ref b21), .val (.int (1 : Int32)), .val (.int x16), .val (.int c1), .val (.int c0), .unset] [])) _
        refine XS.iload X147.here hx rfl (hb hby at_293) rfl ?_
        show Steps p.tables e below (T147.setTop (mkF m 295 #[.val (.int p1), .val (.int p2), .val (.int p3), .val (.int p4), .val (.int p5), .val (.int p6), .val (.int xn), .val (.int c0), .val (.int d1), .val (.int xe), .val (.int c1), .val (.int c2), .val (.int xv), .val (.int (1 : Int32)), .val (.ref b21), .val (.int (1 : Int32)), .val (.int x16), .val (.int c1), .val (.int c0), .unset] [(.int c2)])) _
        refine XS.goto X147.here hx rfl (pc0 := 295) (pc' := 300) rfl (hb hby at_295) (by decide) (by decide) ?_
        show Steps p.tables e below (T147.setTop (mkF m 300 #[.val (.int p1), .val (.int p2), .val (.int p3), .val (.int p4), .val (.int p5), .val (.int p6), .val (.int xn), .val (.int c0), .val (.int d1), .val (.int xe), .val (.int c1), .val (.int c2), .val (.int xv), .val (.int (1 : Int32)), .val (.ref b21), .val (.int (1 : Int32)), .val (.int x16), .val (.int c1), .val (.int c0), .unset] [(.int c2)])) _
        refine XS.istore X147.here hx rfl (hb hby at_300) rfl (l' := #[.val (.int p1), .val (.int p2), .val (.int p3), .val (.int p4), .val (.int p5), .val (.int p6), .val (.int xn), .val (.int c0), .val (.int d1), .val (.int xe), .val (.int c1), .val (.int c2), .val (.int xv), .val (.int (1 : Int32)), .val (.ref b21), .val (.int (1 : Int32)), .val (.int x16), .val (.int c1), .val (.int c0), .val (.int c2)]) rfl ?_
        show Steps p.tables e below (T147.setTop (mkF m 302 #[.val (.int p1), .val (.int p2), .val (.int p3), .val (.int p4), .val (.int p5), .val (.int p6), .val (.int xn), .val (.int c0), .val (.int d1), .val (.int xe), .val (.int c1), .val (.int c2), .val (.int xv), .val (.int (1 : Int32)), .val (.ref b21), .val (.int (1 : Int32)), .val (.int x16), .val (.int c1), .val (.int c0), .val (.int c2)] [])) _
        refine XS.iload X147.here hx rfl (hb hby at_302) rfl ?_
        show Steps p.tables e below (T147.setTop (mkF m 304 #[.val (.int p1), .val (.int p2), .val (.int p3), .val (.int p4), .val (.int p5), .val (.int p6), .val (.int xn), .val (.int c0), .val (.int d1), .val (.int xe), .val (.int c1), .val (.int c2), .val (.int xv), .val (.int (1 : Int32)), .val (.ref b21), .val (.int (1 : Int32)), .val (.int x16), .val (.int c1), .val (.int c0), .val (.int c2)] [(.int (1 : Int32))])) _
        refine XS.ifNo X147.here hx rfl (hb hby at_304) rfl (XT.i0_eq_f (by decide)) ?_
        show Steps p.tables e below (T147.setTop (mkF m 307 #[.val (.int p1), .val (.int p2), .val (.int p3), .val (.int p4), .val (.int p5), .val (.int p6), .val (.int xn), .val (.int c0), .val (.int d1), .val (.int xe), .val (.int c1), .val (.int c2), .val (.int xv), .val (.int (1 : Int32)), .val (.ref b21), .val (.int (1 : Int32)), .val (.int x16), .val (.int c1), .val (.int c0), .val (.int c2)] [])) _
        refine XS.aload X147.here hx rfl (hb hby at_307) rfl rfl ?_
        exact k)
    obtain ⟨cq152, kq152, q152a, q152b, q152c⟩ := isOf hZ rfl Ex_149
    obtain ⟨_, _, ⟨T152, L152, k152, n152⟩, -, X152, ⟨Lc152, hQ152, l152, y152, z152⟩, st152⟩ := X147.virtualBack hx (y := (⟨"com/example/fickle/fickle/engine/LeapingChannels", "size", "()I"⟩ : MethodName)) (z := (⟨"com/example/fickle/fickle/engine/LeapingChannels", "size", "()I"⟩ : MethodName)) hown (mvT hZ (hw _ (List.mem_of_getElem? (i := 32) rfl))) (mvT hZ (hw _ (List.mem_of_getElem? (i := 33) rfl))) (notFace_of_selects (args := #[]) (mvT hZ (hw _ (List.mem_of_getElem? (i := 35) rfl)))) (mvT hZ (hw _ (List.mem_of_getElem? (i := 35) rfl))) (mvT hZ (hw _ (List.mem_of_getElem? (i := 34) rfl))) (by decide) (backOf (W := 0) (rm3 l Z a0 hw [] b21 (2 : Int32) T147.heap n0 Zh15 Fs147) hZ (hw _ (List.mem_of_getElem? (i := 36) rfl)) (hw _ (List.mem_of_getElem? (i := 3) rfl)) (by decide) (by decide)) q152a q152c (g := (mkF m 309 #[.val (.int p1), .val (.int p2), .val (.int p3), .val (.int p4), .val (.int p5), .val (.int p6), .val (.int xn), .val (.int c0), .val (.int d1), .val (.int xe), .val (.int c1), .val (.int c2), .val (.int xv), .val (.int (1 : Int32)), .val (.ref b21), .val (.int (1 : Int32)), .val (.int x16), .val (.int c1), .val (.int c0), .val (.int c2)] [(.ref b21)])) rfl (by rw [hml]; rfl) (Steps.refl _) (argsL := []) (rest := []) (lenOf pd_0_2 rfl) rfl (by show 2 * 0 + _ ≤ _; exact Nat.le_of_eq rfl) (hb hby at_309) (fun _ _ => ⟨rfl, rfl, (by decide : 7 + 0 ≤ _), (by decide : 63 + 0 ≤ _)⟩)
    dsimp only [Pt.U, Pt.locs, Pt.cells, Pt.slots] at X152 l152 y152 z152 st152 hQ152
    subst l152 y152 z152
    obtain ⟨rfl, N152q, hh152⟩ := hQ152
    have N152 := Fr.app N147 N152q
    have pre153 : own_Go p e below (s₁.setTop (entryFrame m #[(.int p1), (.int p2), (.int p3), (.int p4), (.int p5), (.int p6)] maxLocals)) (T152.setTop (mkF m 312 #[.val (.int p1), .val (.int p2), .val (.int p3), .val (.int p4), .val (.int p5), .val (.int p6), .val (.int xn), .val (.int c0), .val (.int d1), .val (.int xe), .val (.int c1), .val (.int c2), .val (.int xv), .val (.int (1 : Int32)), .val (.ref b21), .val (.int (1 : Int32)), .val (.int x16), .val (.int c1), .val (.int c0), .val (.int c2)] [(.int (2 : Int32))])) := fun t k => pre151 t (st152.trans k)
    have F_154 := Fm147
    rw [← hh152] at F_154
    have F_155 := Fp147
    rw [← hh152] at F_155
    have F_156 := Fh147
    rw [← hh152] at F_156
    have F_157 := Fs147
    rw [← hh152] at F_157
    have Ex_158 := Ex_149
    rw [← hh152] at Ex_158
    have V_159 := Vm147
    rw [← hh152] at V_159
    have K_160 := K_150
    rw [← hh152] at K_160
    have Zh16 : n0 ≤ T152.heap.size := Nat.le_trans Z0 K_160.1
    have pre161 : own_Go p e below (s₁.setTop (entryFrame m #[(.int p1), (.int p2), (.int p3), (.int p4), (.int p5), (.int p6)] maxLocals)) (T152.setTop (mkF m 319 #[.val (.int p1), .val (.int p2), .val (.int p3), .val (.int p4), .val (.int p5), .val (.int p6), .val (.int xn), .val (.int c0), .val (.int d1), .val (.int xe), .val (.int c1), .val (.int c2), .val (.int xv), .val (.int (1 : Int32)), .val (.ref b21), .val (.int (1 : Int32)), .val (.int x16), .val (.int c1), .val (.int c0), .val (.int c2)] [(.int (0 : Int32)), (.ref b21)])) := fun t k => pre153 t (by
        show Steps p.tables e below (T152.setTop (mkF m 312 #[.val (.int p1), .val (.int p2), .val (.int p3), .val (.int p4), .val (.int p5), .val (.int p6), .val (.int xn), .val (.int c0), .val (.int d1), .val (.int xe), .val (.int c1), .val (.int c2), .val (.int xv), .val (.int (1 : Int32)), .val (.ref b21), .val (.int (1 : Int32)), .val (.int x16), .val (.int c1), .val (.int c0), .val (.int c2)] [(.int (2 : Int32))])) _
        refine XS.iconst X152.here hx rfl (hb hby at_312) ?_
        show Steps p.tables e below (T152.setTop (mkF m 313 #[.val (.int p1), .val (.int p2), .val (.int p3), .val (.int p4), .val (.int p5), .val (.int p6), .val (.int xn), .val (.int c0), .val (.int d1), .val (.int xe), .val (.int c1), .val (.int c2), .val (.int xv), .val (.int (1 : Int32)), .val (.ref b21), .val (.int (1 : Int32)), .val (.int x16), .val (.int c1), .val (.int c0), .val (.int c2)] [(.int (2 : Int32)), (.int (2 : Int32))])) _
        refine XS.icmpNo X152.here hx rfl (hb hby at_313) rfl (XT.ii_ne_f (by decide)) ?_
        show Steps p.tables e below (T152.setTop (mkF m 316 #[.val (.int p1), .val (.int p2), .val (.int p3), .val (.int p4), .val (.int p5), .val (.int p6), .val (.int xn), .val (.int c0), .val (.int d1), .val (.int xe), .val (.int c1), .val (.int c2), .val (.int xv), .val (.int (1 : Int32)), .val (.ref b21), .val (.int (1 : Int32)), .val (.int x16), .val (.int c1), .val (.int c0), .val (.int c2)] [])) _
        refine XS.aload X152.here hx rfl (hb hby at_316) rfl rfl ?_
        show Steps p.tables e below (T152.setTop (mkF m 318 #[.val (.int p1), .val (.int p2), .val (.int p3), .val (.int p4), .val (.int p5), .val (.int p6), .val (.int xn), .val (.int c0), .val (.int d1), .val (.int xe), .val (.int c1), .val (.int c2), .val (.int xv), .val (.int (1 : Int32)), .val (.ref b21), .val (.int (1 : Int32)), .val (.int x16), .val (.int c1), .val (.int c0), .val (.int c2)] [(.ref b21)])) _
        refine XS.iconst X152.here hx rfl (hb hby at_318) ?_
        exact k)
    obtain ⟨cq162, kq162, q162a, q162b, q162c⟩ := isOf hZ rfl Ex_158
    obtain ⟨_, _, ⟨T162, L162, k162, n162⟩, -, X162, ⟨Lc162, hQ162, l162, y162, z162⟩, st162⟩ := X152.virtualBack hx (y := (⟨"com/example/fickle/fickle/engine/LeapingChannels", "get", "(I)I"⟩ : MethodName)) (z := (⟨"com/example/fickle/fickle/engine/LeapingChannels", "get", "(I)I"⟩ : MethodName)) hown (mvT hZ (hw _ (List.mem_of_getElem? (i := 37) rfl))) (mvT hZ (hw _ (List.mem_of_getElem? (i := 38) rfl))) (notFace_of_selects (args := #[]) (mvT hZ (hw _ (List.mem_of_getElem? (i := 40) rfl)))) (mvT hZ (hw _ (List.mem_of_getElem? (i := 40) rfl))) (mvT hZ (hw _ (List.mem_of_getElem? (i := 39) rfl))) (by decide) (backOf (W := 0) (rm4 l Z a0 hw [] b21 am (0 : Int32) xn c0 _ T152.heap n0 Zh16 F_154 V_159 (by decide) hb0 ((own_upd_miss _ _ (by decide)).trans ((own_upd_miss _ _ (by decide)).trans ((own_upd_miss _ _ (by decide)).trans (own_upd_hit _ _ rfl))))) hZ (hw _ (List.mem_of_getElem? (i := 41) rfl)) (hw _ (List.mem_of_getElem? (i := 3) rfl)) (by decide) (by decide)) q162a q162c (g := (mkF m 319 #[.val (.int p1), .val (.int p2), .val (.int p3), .val (.int p4), .val (.int p5), .val (.int p6), .val (.int xn), .val (.int c0), .val (.int d1), .val (.int xe), .val (.int c1), .val (.int c2), .val (.int xv), .val (.int (1 : Int32)), .val (.ref b21), .val (.int (1 : Int32)), .val (.int x16), .val (.int c1), .val (.int c0), .val (.int c2)] [(.int (0 : Int32)), (.ref b21)])) rfl (by rw [hml]; rfl) (Steps.refl _) (argsL := [(.int (0 : Int32))]) (rest := []) (lenOf pd_0_3 rfl) rfl (by show 2 * 0 + _ ≤ _; exact Nat.le_of_eq rfl) (hb hby at_319) (fun _ _ => ⟨rfl, rfl, (by decide : 7 + 0 ≤ _), (by decide : 63 + 0 ≤ _)⟩)
    dsimp only [Pt.U, Pt.locs, Pt.cells, Pt.slots] at X162 l162 y162 z162 st162 hQ162
    subst l162 y162 z162
    obtain ⟨rfl, N162q, hh162⟩ := hQ162
    have N162 := Fr.app N152 N162q
    have pre163 : own_Go p e below (s₁.setTop (entryFrame m #[(.int p1), (.int p2), (.int p3), (.int p4), (.int p5), (.int p6)] maxLocals)) (T162.setTop (mkF m 322 #[.val (.int p1), .val (.int p2), .val (.int p3), .val (.int p4), .val (.int p5), .val (.int p6), .val (.int xn), .val (.int c0), .val (.int d1), .val (.int xe), .val (.int c1), .val (.int c2), .val (.int xv), .val (.int (1 : Int32)), .val (.ref b21), .val (.int (1 : Int32)), .val (.int x16), .val (.int c1), .val (.int c0), .val (.int c2)] [(.int c0)])) := fun t k => pre161 t (st162.trans k)
    have F_164 := F_154
    rw [← hh162] at F_164
    have F_165 := F_155
    rw [← hh162] at F_165
    have F_166 := F_156
    rw [← hh162] at F_166
    have F_167 := F_157
    rw [← hh162] at F_167
    have Ex_168 := Ex_158
    rw [← hh162] at Ex_168
    have V_169 := V_159
    rw [← hh162] at V_169
    have K_170 := K_160
    rw [← hh162] at K_170
    have Zh17 : n0 ≤ T162.heap.size := Nat.le_trans Z0 K_170.1
    have pre171 : own_Go p e below (s₁.setTop (entryFrame m #[(.int p1), (.int p2), (.int p3), (.int p4), (.int p5), (.int p6)] maxLocals)) (T162.setTop (mkF m 330 #[.val (.int p1), .val (.int p2), .val (.int p3), .val (.int p4), .val (.int p5), .val (.int p6), .val (.int xn), .val (.int c0), .val (.int d1), .val (.int xe), .val (.int c1), .val (.int c2), .val (.int xv), .val (.int (1 : Int32)), .val (.ref b21), .val (.int (1 : Int32)), .val (.int x16), .val (.int c1), .val (.int c0), .val (.int c2)] [(.int (1 : Int32)), (.ref b21)])) := fun t k => pre163 t (by
        show Steps p.tables e below (T162.setTop (mkF m 322 #[.val (.int p1), .val (.int p2), .val (.int p3), .val (.int p4), .val (.int p5), .val (.int p6), .val (.int xn), .val (.int c0), .val (.int d1), .val (.int xe), .val (.int c1), .val (.int c2), .val (.int xv), .val (.int (1 : Int32)), .val (.ref b21), .val (.int (1 : Int32)), .val (.int x16), .val (.int c1), .val (.int c0), .val (.int c2)] [(.int c0)])) _
        refine XS.iload X162.here hx rfl (hb hby at_322) rfl ?_
        show Steps p.tables e below (T162.setTop (mkF m 324 #[.val (.int p1), .val (.int p2), .val (.int p3), .val (.int p4), .val (.int p5), .val (.int p6), .val (.int xn), .val (.int c0), .val (.int d1), .val (.int xe), .val (.int c1), .val (.int c2), .val (.int xv), .val (.int (1 : Int32)), .val (.ref b21), .val (.int (1 : Int32)), .val (.int x16), .val (.int c1), .val (.int c0), .val (.int c2)] [(.int c0), (.int c0)])) _
        refine XS.icmpNo X162.here hx rfl (hb hby at_324) rfl (XT.ii_ne_f rfl) ?_
        show Steps p.tables e below (T162.setTop (mkF m 327 #[.val (.int p1), .val (.int p2), .val (.int p3), .val (.int p4), .val (.int p5), .val (.int p6), .val (.int xn), .val (.int c0), .val (.int d1), .val (.int xe), .val (.int c1), .val (.int c2), .val (.int xv), .val (.int (1 : Int32)), .val (.ref b21), .val (.int (1 : Int32)), .val (.int x16), .val (.int c1), .val (.int c0), .val (.int c2)] [])) _
        refine XS.aload X162.here hx rfl (hb hby at_327) rfl rfl ?_
        show Steps p.tables e below (T162.setTop (mkF m 329 #[.val (.int p1), .val (.int p2), .val (.int p3), .val (.int p4), .val (.int p5), .val (.int p6), .val (.int xn), .val (.int c0), .val (.int d1), .val (.int xe), .val (.int c1), .val (.int c2), .val (.int xv), .val (.int (1 : Int32)), .val (.ref b21), .val (.int (1 : Int32)), .val (.int x16), .val (.int c1), .val (.int c0), .val (.int c2)] [(.ref b21)])) _
        refine XS.iconst X162.here hx rfl (hb hby at_329) ?_
        exact k)
    obtain ⟨cq172, kq172, q172a, q172b, q172c⟩ := isOf hZ rfl Ex_168
    obtain ⟨_, _, ⟨T172, L172, k172, n172⟩, -, X172, ⟨Lc172, hQ172, l172, y172, z172⟩, st172⟩ := X162.virtualBack hx (y := (⟨"com/example/fickle/fickle/engine/LeapingChannels", "get", "(I)I"⟩ : MethodName)) (z := (⟨"com/example/fickle/fickle/engine/LeapingChannels", "get", "(I)I"⟩ : MethodName)) hown (mvT hZ (hw _ (List.mem_of_getElem? (i := 37) rfl))) (mvT hZ (hw _ (List.mem_of_getElem? (i := 38) rfl))) (notFace_of_selects (args := #[]) (mvT hZ (hw _ (List.mem_of_getElem? (i := 40) rfl)))) (mvT hZ (hw _ (List.mem_of_getElem? (i := 40) rfl))) (mvT hZ (hw _ (List.mem_of_getElem? (i := 39) rfl))) (by decide) (backOf (W := 0) (rm4 l Z a0 hw [] b21 am (1 : Int32) xn c2 _ T162.heap n0 Zh17 F_164 V_169 (by decide) hb1 (own_upd_hit _ _ rfl)) hZ (hw _ (List.mem_of_getElem? (i := 41) rfl)) (hw _ (List.mem_of_getElem? (i := 3) rfl)) (by decide) (by decide)) q172a q172c (g := (mkF m 330 #[.val (.int p1), .val (.int p2), .val (.int p3), .val (.int p4), .val (.int p5), .val (.int p6), .val (.int xn), .val (.int c0), .val (.int d1), .val (.int xe), .val (.int c1), .val (.int c2), .val (.int xv), .val (.int (1 : Int32)), .val (.ref b21), .val (.int (1 : Int32)), .val (.int x16), .val (.int c1), .val (.int c0), .val (.int c2)] [(.int (1 : Int32)), (.ref b21)])) rfl (by rw [hml]; rfl) (Steps.refl _) (argsL := [(.int (1 : Int32))]) (rest := []) (lenOf pd_0_3 rfl) rfl (by show 2 * 0 + _ ≤ _; exact Nat.le_of_eq rfl) (hb hby at_330) (fun _ _ => ⟨rfl, rfl, (by decide : 7 + 0 ≤ _), (by decide : 63 + 0 ≤ _)⟩)
    dsimp only [Pt.U, Pt.locs, Pt.cells, Pt.slots] at X172 l172 y172 z172 st172 hQ172
    subst l172 y172 z172
    obtain ⟨rfl, N172q, hh172⟩ := hQ172
    have N172 := Fr.app N162 N172q
    have pre173 : own_Go p e below (s₁.setTop (entryFrame m #[(.int p1), (.int p2), (.int p3), (.int p4), (.int p5), (.int p6)] maxLocals)) (T172.setTop (mkF m 333 #[.val (.int p1), .val (.int p2), .val (.int p3), .val (.int p4), .val (.int p5), .val (.int p6), .val (.int xn), .val (.int c0), .val (.int d1), .val (.int xe), .val (.int c1), .val (.int c2), .val (.int xv), .val (.int (1 : Int32)), .val (.ref b21), .val (.int (1 : Int32)), .val (.int x16), .val (.int c1), .val (.int c0), .val (.int c2)] [(.int c2)])) := fun t k => pre171 t (st172.trans k)
    have F_174 := F_164
    rw [← hh172] at F_174
    have F_175 := F_165
    rw [← hh172] at F_175
    have F_176 := F_166
    rw [← hh172] at F_176
    have F_177 := F_167
    rw [← hh172] at F_177
    have Ex_178 := Ex_168
    rw [← hh172] at Ex_178
    have V_179 := V_169
    rw [← hh172] at V_179
    have K_180 := K_170
    rw [← hh172] at K_180
    have pre181 : own_Go p e below (s₁.setTop (entryFrame m #[(.int p1), (.int p2), (.int p3), (.int p4), (.int p5), (.int p6)] maxLocals)) (T172.setTop (mkF m 347 #[.val (.int p1), .val (.int p2), .val (.int p3), .val (.int p4), .val (.int p5), .val (.int p6), .val (.int xn), .val (.int c0), .val (.int d1), .val (.int xe), .val (.int c1), .val (.int c2), .val (.int xv), .val (.int (1 : Int32)), .val (.ref b21), .val (.int (1 : Int32)), .val (.int x16), .val (.int c1), .val (.int c0), .val (.int c2)] [(.int (1 : Int32))])) := fun t k => pre173 t (by
        show Steps p.tables e below (T172.setTop (mkF m 333 #[.val (.int p1), .val (.int p2), .val (.int p3), .val (.int p4), .val (.int p5), .val (.int p6), .val (.int xn), .val (.int c0), .val (.int d1), .val (.int xe), .val (.int c1), .val (.int c2), .val (.int xv), .val (.int (1 : Int32)), .val (.ref b21), .val (.int (1 : Int32)), .val (.int x16), .val (.int c1), .val (.int c0), .val (.int c2)] [(.int c2)])) _
        refine XS.iload X172.here hx rfl (hb hby at_333) rfl ?_
        show Steps p.tables e below (T172.setTop (mkF m 335 #[.val (.int p1), .val (.int p2), .val (.int p3), .val (.int p4), .val (.int p5), .val (.int p6), .val (.int xn), .val (.int c0), .val (.int d1), .val (.int xe), .val (.int c1), .val (.int c2), .val (.int xv), .val (.int (1 : Int32)), .val (.ref b21), .val (.int (1 : Int32)), .val (.int x16), .val (.int c1), .val (.int c0), .val (.int c2)] [(.int c2), (.int c2)])) _
        refine XS.icmpNo X172.here hx rfl (hb hby at_335) rfl (XT.ii_ne_f rfl) ?_
        show Steps p.tables e below (T172.setTop (mkF m 338 #[.val (.int p1), .val (.int p2), .val (.int p3), .val (.int p4), .val (.int p5), .val (.int p6), .val (.int xn), .val (.int c0), .val (.int d1), .val (.int xe), .val (.int c1), .val (.int c2), .val (.int xv), .val (.int (1 : Int32)), .val (.ref b21), .val (.int (1 : Int32)), .val (.int x16), .val (.int c1), .val (.int c0), .val (.int c2)] [])) _
        refine XS.iconst X172.here hx rfl (hb hby at_338) ?_
        show Steps p.tables e below (T172.setTop (mkF m 339 #[.val (.int p1), .val (.int p2), .val (.int p3), .val (.int p4), .val (.int p5), .val (.int p6), .val (.int xn), .val (.int c0), .val (.int d1), .val (.int xe), .val (.int c1), .val (.int c2), .val (.int xv), .val (.int (1 : Int32)), .val (.ref b21), .val (.int (1 : Int32)), .val (.int x16), .val (.int c1), .val (.int c0), .val (.int c2)] [(.int (1 : Int32))])) _
        refine XS.goto X172.here hx rfl (pc0 := 339) (pc' := 343) rfl (hb hby at_339) (by decide) (by decide) ?_
        show Steps p.tables e below (T172.setTop (mkF m 343 #[.val (.int p1), .val (.int p2), .val (.int p3), .val (.int p4), .val (.int p5), .val (.int p6), .val (.int xn), .val (.int c0), .val (.int d1), .val (.int xe), .val (.int c1), .val (.int c2), .val (.int xv), .val (.int (1 : Int32)), .val (.ref b21), .val (.int (1 : Int32)), .val (.int x16), .val (.int c1), .val (.int c0), .val (.int c2)] [(.int (1 : Int32))])) _
        refine XS.istore X172.here hx rfl (hb hby at_343) rfl (l' := #[.val (.int p1), .val (.int p2), .val (.int p3), .val (.int p4), .val (.int p5), .val (.int p6), .val (.int xn), .val (.int c0), .val (.int d1), .val (.int xe), .val (.int c1), .val (.int c2), .val (.int xv), .val (.int (1 : Int32)), .val (.ref b21), .val (.int (1 : Int32)), .val (.int x16), .val (.int c1), .val (.int c0), .val (.int c2)]) rfl ?_
        show Steps p.tables e below (T172.setTop (mkF m 345 #[.val (.int p1), .val (.int p2), .val (.int p3), .val (.int p4), .val (.int p5), .val (.int p6), .val (.int xn), .val (.int c0), .val (.int d1), .val (.int xe), .val (.int c1), .val (.int c2), .val (.int xv), .val (.int (1 : Int32)), .val (.ref b21), .val (.int (1 : Int32)), .val (.int x16), .val (.int c1), .val (.int c0), .val (.int c2)] [])) _
        refine XS.iload X172.here hx rfl (hb hby at_345) rfl ?_
        exact k)
    obtain ⟨fs, hr, hrun, hended, hW, hsame⟩ := X172.leave (v := some (.int (1 : Int32))) (fun h => by rw [Bd.returns] at h; cases h)
    refine ⟨_, _, pre181 _ ?_, hrun, hended, _, _, rfl, ?_, ⟨_, rfl⟩, hW, hsame.mono (by decide) (by decide)⟩
    · show Steps p.tables e below (T172.setTop (mkF m 347 #[.val (.int p1), .val (.int p2), .val (.int p3), .val (.int p4), .val (.int p5), .val (.int p6), .val (.int xn), .val (.int c0), .val (.int d1), .val (.int xe), .val (.int c1), .val (.int c2), .val (.int xv), .val (.int (1 : Int32)), .val (.ref b21), .val (.int (1 : Int32)), .val (.int x16), .val (.int c1), .val (.int c0), .val (.int c2)] [(.int (1 : Int32))])) _
      exact retN X172 hx (t := .boolean) Bd.returns (by simp) (hb hby at_347) hr
    · show Q0 Z p1 p2 p3 p4 p5 p6 h0 n0 _ T172.heap _
      exact ⟨rfl, N172⟩
  · skip
    have Zh18 : n0 ≤ T98.heap.size := Nat.le_trans Z0 K_108.1
    have pre182 : own_Go p e below (s₁.setTop (entryFrame m #[(.int p1), (.int p2), (.int p3), (.int p4), (.int p5), (.int p6)] maxLocals)) (T98.setTop (mkF m 270 #[.val (.int p1), .val (.int p2), .val (.int p3), .val (.int p4), .val (.int p5), .val (.int p6), .val (.int xn), .val (.int c0), .val (.int d1), .val (.int xe), .val (.int c1), .val (.int c2), .val (.int xv), .val (.int (2 : Int32)), .val (.ref b21), .val (.int (1 : Int32)), .val (.int x16), .val (.int c2), .unset, .unset] [(.int c2), (.ref b21)])) := fun t k => pre109 t (by
        show Steps p.tables e below (T98.setTop (mkF m 241 #[.val (.int p1), .val (.int p2), .val (.int p3), .val (.int p4), .val (.int p5), .val (.int p6), .val (.int xn), .val (.int c0), .val (.int d1), .val (.int xe), .val (.int c1), .val (.int c2), .val (.int xv), .val (.int (2 : Int32)), .val (.ref b21), .val (.int (1 : Int32)), .val (.int x16), .unset, .unset, .unset] [])) _
        refine XS.iload X98.here hx rfl (hb hby at_241) rfl ?_
        show Steps p.tables e below (T98.setTop (mkF m 243 #[.val (.int p1), .val (.int p2), .val (.int p3), .val (.int p4), .val (.int p5), .val (.int p6), .val (.int xn), .val (.int c0), .val (.int d1), .val (.int xe), .val (.int c1), .val (.int c2), .val (.int xv), .val (.int (2 : Int32)), .val (.ref b21), .val (.int (1 : Int32)), .val (.int x16), .unset, .unset, .unset] [(.int (2 : Int32))])) _
        refine XS.ifYes X98.here hx rfl (pc0 := 243) (pc' := 251) rfl (hb hby at_243) rfl (XT.i0_ne_t (by decide)) (by decide) (by decide) ?_
        show Steps p.tables e below (T98.setTop (mkF m 251 #[.val (.int p1), .val (.int p2), .val (.int p3), .val (.int p4), .val (.int p5), .val (.int p6), .val (.int xn), .val (.int c0), .val (.int d1), .val (.int xe), .val (.int c1), .val (.int c2), .val (.int xv), .val (.int (2 : Int32)), .val (.ref b21), .val (.int (1 : Int32)), .val (.int x16), .unset, .unset, .unset] [])) _
        refine XS.iload X98.here hx rfl (hb hby at_251) rfl ?_
        show Steps p.tables e below (T98.setTop (mkF m 253 #[.val (.int p1), .val (.int p2), .val (.int p3), .val (.int p4), .val (.int p5), .val (.int p6), .val (.int xn), .val (.int c0), .val (.int d1), .val (.int xe), .val (.int c1), .val (.int c2), .val (.int xv), .val (.int (2 : Int32)), .val (.ref b21), .val (.int (1 : Int32)), .val (.int x16), .unset, .unset, .unset] [(.int (2 : Int32))])) _
        refine XS.iconst X98.here hx rfl (hb hby at_253) ?_
        show Steps p.tables e below (T98.setTop (mkF m 254 #[.val (.int p1), .val (.int p2), .val (.int p3), .val (.int p4), .val (.int p5), .val (.int p6), .val (.int xn), .val (.int c0), .val (.int d1), .val (.int xe), .val (.int c1), .val (.int c2), .val (.int xv), .val (.int (2 : Int32)), .val (.ref b21), .val (.int (1 : Int32)), .val (.int x16), .unset, .unset, .unset] [(.int (1 : Int32)), (.int (2 : Int32))])) _
        refine XS.icmpYes X98.here hx rfl (pc0 := 254) (pc' := 262) rfl (hb hby at_254) rfl (XT.ii_ne_t (by decide)) (by decide) (by decide) ?_
        show Steps p.tables e below (T98.setTop (mkF m 262 #[.val (.int p1), .val (.int p2), .val (.int p3), .val (.int p4), .val (.int p5), .val (.int p6), .val (.int xn), .val (.int c0), .val (.int d1), .val (.int xe), .val (.int c1), .val (.int c2), .val (.int xv), .val (.int (2 : Int32)), .val (.ref b21), .val (.int (1 : Int32)), .val (.int x16), .unset, .unset, .unset] [])) _
        refine XS.iload X98.here hx rfl (hb hby at_262) rfl ?_
        show Steps p.tables e below (T98.setTop (mkF m 264 #[.val (.int p1), .val (.int p2), .val (.int p3), .val (.int p4), .val (.int p5), .val (.int p6), .val (.int xn), .val (.int c0), .val (.int d1), .val (.int xe), .val (.int c1), .val (.int c2), .val (.int xv), .val (.int (2 : Int32)), .val (.ref b21), .val (.int (1 : Int32)), .val (.int x16), .unset, .unset, .unset] [(.int c2)])) _
        refine XS.istore X98.here hx rfl (hb hby at_264) rfl (l' := #[.val (.int p1), .val (.int p2), .val (.int p3), .val (.int p4), .val (.int p5), .val (.int p6), .val (.int xn), .val (.int c0), .val (.int d1), .val (.int xe), .val (.int c1), .val (.int c2), .val (.int xv), .val (.int (2 : Int32)), .val (.ref b21), .val (.int (1 : Int32)), .val (.int x16), .val (.int c2), .unset, .unset]) rfl ?_
        show Steps p.tables e below (T98.setTop (mkF m 266 #[.val (.int p1), .val (.int p2), .val (.int p3), .val (.int p4), .val (.int p5), .val (.int p6), .val (.int xn), .val (.int c0), .val (.int d1), .val (.int xe), .val (.int c1), .val (.int c2), .val (.int xv), .val (.int (2 : Int32)), .val (.ref b21), .val (.int (1 : Int32)), .val (.int x16), .val (.int c2), .unset, .unset] [])) _
        refine XS.aload X98.here hx rfl (hb hby at_266) rfl rfl ?_
        show Steps p.tables e below (T98.setTop (mkF m 268 #[.val (.int p1), .val (.int p2), .val (.int p3), .val (.int p4), .val (.int p5), .val (.int p6), .val (.int xn), .val (.int c0), .val (.int d1), .val (.int xe), .val (.int c1), .val (.int c2), .val (.int xv), .val (.int (2 : Int32)), .val (.ref b21), .val (.int (1 : Int32)), .val (.int x16), .val (.int c2), .unset, .unset] [(.ref b21)])) _
        refine XS.iload X98.here hx rfl (hb hby at_268) rfl ?_
        exact k)
    obtain ⟨cq183, kq183, q183a, q183b, q183c⟩ := isOf hZ rfl Ex_104
    obtain ⟨_, _, ⟨T183, L183, k183, n183⟩, -, X183, ⟨Lc183, hQ183, l183, y183, z183⟩, st183⟩ := X98.virtualBack hx (y := (⟨"com/example/fickle/fickle/engine/LeapingChannels", "remove", "(I)V"⟩ : MethodName)) (z := (⟨"com/example/fickle/fickle/engine/LeapingChannels", "remove", "(I)V"⟩ : MethodName)) hown (mvT hZ (hw _ (List.mem_of_getElem? (i := 47) rfl))) (mvT hZ (hw _ (List.mem_of_getElem? (i := 48) rfl))) (notFace_of_selects (args := #[]) (mvT hZ (hw _ (List.mem_of_getElem? (i := 50) rfl)))) (mvT hZ (hw _ (List.mem_of_getElem? (i := 50) rfl))) (mvT hZ (hw _ (List.mem_of_getElem? (i := 49) rfl))) (by decide) (backOf (W := 0) (rm6 l Z a0 hw [] c2 b21 am ap ah (3 : Int32) xn _ _ _ (2 : Int32) c2 (2 : Int32) T98.heap n0 Zh18 F_100 F_101 F_102 F_103 V_105 V_106 V_107 Ex_104 g_b21 g_am g_ap g_ah ne_am ne_ap ne_ah nmp nmh nph (by decide) (by decide) hb2 c2_0 c2_n (own_upd_hit _ _ rfl) c2_0 c2_n (own_upd_hit _ _ rfl) (by decide) hb2) hZ (hw _ (List.mem_of_getElem? (i := 51) rfl)) (hw _ (List.mem_of_getElem? (i := 3) rfl)) (by decide) (by decide)) q183a q183c (g := (mkF m 270 #[.val (.int p1), .val (.int p2), .val (.int p3), .val (.int p4), .val (.int p5), .val (.int p6), .val (.int xn), .val (.int c0), .val (.int d1), .val (.int xe), .val (.int c1), .val (.int c2), .val (.int xv), .val (.int (2 : Int32)), .val (.ref b21), .val (.int (1 : Int32)), .val (.int x16), .val (.int c2), .unset, .unset] [(.int c2), (.ref b21)])) rfl (by rw [hml]; rfl) (Steps.refl _) (argsL := [(.int c2)]) (rest := []) (lenOf pd_0_1 rfl) rfl (by show 2 * 0 + _ ≤ _; exact Nat.le_of_eq rfl) (hb hby at_270) (fun _ _ => ⟨rfl, rfl, (by decide : 7 + 0 ≤ _), (by decide : 63 + 0 ≤ _)⟩)
    dsimp only [Pt.U, Pt.locs, Pt.cells, Pt.slots] at X183 l183 y183 z183 st183 hQ183
    subst l183 y183 z183
    obtain ⟨rfl, N183q, K183, Fm183, Fp183, Fh183, Fs183, Vm183⟩ := hQ183
    have N183 := Fr.app N98 N183q
    have pre184 : own_Go p e below (s₁.setTop (entryFrame m #[(.int p1), (.int p2), (.int p3), (.int p4), (.int p5), (.int p6)] maxLocals)) (T183.setTop (mkF m 273 #[.val (.int p1), .val (.int p2), .val (.int p3), .val (.int p4), .val (.int p5), .val (.int p6), .val (.int xn), .val (.int c0), .val (.int d1), .val (.int xe), .val (.int c1), .val (.int c2), .val (.int xv), .val (.int (2 : Int32)), .val (.ref b21), .val (.int (1 : Int32)), .val (.int x16), .val (.int c2), .unset, .unset] [])) := fun t k => pre182 t (st183.trans k)
    have Ex_185 := Ex_104.keep K183
    have K_186 := K_108.trans K183 (allS (Or.inr sz_b21) (allS (Or.inr sz_am) (allS (Or.inr sz_ap) (allS (Or.inr sz_ah) all0))))
    have Zh19 : n0 ≤ T183.heap.size := Nat.le_trans Z0 K_186.1
    have pre187 : own_Go p e below (s₁.setTop (entryFrame m #[(.int p1), (.int p2), (.int p3), (.int p4), (.int p5), (.int p6)] maxLocals)) (T183.setTop (mkF m 309 #[.val (.int p1), .val (.int p2), .val (.int p3), .val (.int p4), .val (.int p5), .val (.int p6), .val (.int xn), .val (.int c0), .val (.int d1), .val (.int xe), .val (.int c1), .val (.int c2), .val (.int xv), .val (.int (2 : Int32)), .val (.ref b21), .val (.int (1 : Int32)), .val (.int x16), .val (.int c2), .val (.int c0), .val (.int c1)] [(.ref b21)])) := fun t k => pre184 t (by
        show Steps p.tables e below (T183.setTop (mkF m 273 #[.val (.int p1), .val (.int p2), .val (.int p3), .val (.int p4), .val (.int p5), .val (.int p6), .val (.int xn), .val (.int c0), .val (.int d1), .val (.int xe), .val (.int c1), .val (.int c2), .val (.int xv), .val (.int (2 : Int32)), .val (.ref b21), .val (.int (1 : Int32)), .val (.int x16), .val (.int c2), .unset, .unset] [])) _
        refine XS.iload X183.here hx rfl (hb hby at_273) rfl ?_
        show Steps p.tables e below (T183.setTop (mkF m 275 #[.val (.int p1), .val (.int p2), .val (.int p3), .val (.int p4), .val (.int p5), .val (.int p6), .val (.int xn), .val (.int c0), .val (.int d1), .val (.int xe), .val (.int c1), .val (.int c2), .val (.int xv), .val (.int (2 : Int32)), .val (.ref b21), .val (.int (1 : Int32)), .val (.int x16), .val (.int c2), .unset, .unset] [(.int (2 : Int32))])) _
        refine XS.ifYes X183.here hx rfl (pc0 := 275) (pc' := 283) rfl (hb hby at_275) rfl (XT.i0_ne_t (by decide)) (by decide) (by decide) ?_
        show Steps p.tables e below (T183.setTop (mkF m 283 #[.val (.int p1), .val (.int p2), .val (.int p3), .val (.int p4), .val (.int p5), .val (.int p6), .val (.int xn), .val (.int c0), .val (.int d1), .val (.int xe), .val (.int c1), .val (.int c2), .val (.int xv), .val (.int (2 : Int32)), .val (.ref b21), .val (.int (1 : Int32)), .val (.int x16), .val (.int c2), .unset, .unset] [])) _
        refine XS.iload X183.here hx rfl (hb hby at_283) rfl ?_
        show Steps p.tables e below (T183.setTop (mkF m 285 #[.val (.int p1), .val (.int p2), .val (.int p3), .val (.int p4), .val (.int p5), .val (.int p6), .val (.int xn), .val (.int c0), .val (.int d1), .val (.int xe), .val (.int c1), .val (.int c2), .val (.int xv), .val (.int (2 : Int32)), .val (.ref b21), .val (.int (1 : Int32)), .val (.int x16), .val (.int c2), .unset, .unset] [(.int c0)])) _
        refine XS.istore X183.here hx rfl (hb hby at_285) rfl (l' := #[.val (.int p1), .val (.int p2), .val (.int p3), .val (.int p4), .val (.int p5), .val (.int p6), .val (.int xn), .val (.int c0), .val (.int d1), .val (.int xe), .val (.int c1), .val (.int c2), .val (.int xv), .val (.int (2 : Int32)), .val (.ref b21), .val (.int (1 : Int32)), .val (.int x16), .val (.int c2), .val (.int c0), .unset]) rfl ?_
        show Steps p.tables e below (T183.setTop (mkF m 287 #[.val (.int p1), .val (.int p2), .val (.int p3), .val (.int p4), .val (.int p5), .val (.int p6), .val (.int xn), .val (.int c0), .val (.int d1), .val (.int xe), .val (.int c1), .val (.int c2), .val (.int xv), .val (.int (2 : Int32)), .val (.ref b21), .val (.int (1 : Int32)), .val (.int x16), .val (.int c2), .val (.int c0), .unset] [])) _
        refine XS.iload X183.here hx rfl (hb hby at_287) rfl ?_
        show Steps p.tables e below (T183.setTop (mkF m 289 #[.val (.int p1), .val (.int p2), .val (.int p3), .val (.int p4), .val (.int p5), .val (.int p6), .val (.int xn), .val (.int c0), .val (.int d1), .val (.int xe), .val (.int c1), .val (.int c2), .val (.int xv), .val (.int (2 : Int32)), .val (.ref b21), .val (.int (1 : Int32)), .val (.int x16), .val (.int c2), .val (.int c0), .unset] [(.int (2 : Int32))])) _
        refine XS.iconst X183.here hx rfl (hb hby at_289) ?_
        show Steps p.tables e below (T183.setTop (mkF m 290 #[.val (.int p1), .val (.int p2), .val (.int p3), .val (.int p4), .val (.int p5), .val (.int p6), .val (.int xn), .val (.int c0), .val (.int d1), .val (.int xe), .val (.int c1), .val (.int c2), .val (.int xv), .val (.int (2 : Int32)), .val (.ref b21), .val (.int (1 : Int32)), .val (.int x16), .val (.int c2), .val (.int c0), .unset] [(.int (1 : Int32)), (.int (2 : Int32))])) _
        refine XS.icmpYes X183.here hx rfl (pc0 := 290) (pc' := 298) rfl (hb hby at_290) rfl (XT.ii_ne_t (by decide)) (by decide) (by decide) ?_
        show Steps p.tables e below (T183.setTop (mkF m 298 #[.val (.int p1), .val (.int p2), .val (.int p3), .val (.int p4), .val (.int p5), .val (.int p6), .val (.int xn), .val (.int c0), .val (.int d1), .val (.int xe), .val (.int c1), .val (.int c2), .val (.int xv), .val (.int (2 : Int32)), .val (.ref b21), .val (.int (1 : Int32)), .val (.int x16), .val (.int c2), .val (.int c0), .unset] [])) _
        refine XS.iload X183.here hx rfl (hb hby at_298) rfl ?_
        show Steps p.tables e below (T183.setTop (mkF m 300 #[.val (.int p1), .val (.int p2), .val (.int p3), .val (.int p4), .val (.int p5), .val (.int p6), .val (.int xn), .val (.int c0), .val (.int d1), .val (.int xe), .val (.int c1), .val (.int c2), .val (.int xv), .val (.int (2 : Int32)), .val (.ref b21), .val (.int (1 : Int32)), .val (.int x16), .val (.int c2), .val (.int c0), .unset] [(.int c1)])) _
        refine XS.istore X183.here hx rfl (hb hby at_300) rfl (l' := #[.val (.int p1), .val (.int p2), .val (.int p3), .val (.int p4), .val (.int p5), .val (.int p6), .val (.int xn), .val (.int c0), .val (.int d1), .val (.int xe), .val (.int c1), .val (.int c2), .val (.int xv), .val (.int (2 : Int32)), .val (.ref b21), .val (.int (1 : Int32)), .val (.int x16), .val (.int c2), .val (.int c0), .val (.int c1)]) rfl ?_
        show Steps p.tables e below (T183.setTop (mkF m 302 #[.val (.int p1), .val (.int p2), .val (.int p3), .val (.int p4), .val (.int p5), .val (.int p6), .val (.int xn), .val (.int c0), .val (.int d1), .val (.int xe), .val (.int c1), .val (.int c2), .val (.int xv), .val (.int (2 : Int32)), .val (.ref b21), .val (.int (1 : Int32)), .val (.int x16), .val (.int c2), .val (.int c0), .val (.int c1)] [])) _
        refine XS.iload X183.here hx rfl (hb hby at_302) rfl ?_
        show Steps p.tables e below (T183.setTop (mkF m 304 #[.val (.int p1), .val (.int p2), .val (.int p3), .val (.int p4), .val (.int p5), .val (.int p6), .val (.int xn), .val (.int c0), .val (.int d1), .val (.int xe), .val (.int c1), .val (.int c2), .val (.int xv), .val (.int (2 : Int32)), .val (.ref b21), .val (.int (1 : Int32)), .val (.int x16), .val (.int c2), .val (.int c0), .val (.int c1)] [(.int (1 : Int32))])) _
        refine XS.ifNo X183.here hx rfl (hb hby at_304) rfl (XT.i0_eq_f (by decide)) ?_
        show Steps p.tables e below (T183.setTop (mkF m 307 #[.val (.int p1), .val (.int p2), .val (.int p3), .val (.int p4), .val (.int p5), .val (.int p6), .val (.int xn), .val (.int c0), .val (.int d1), .val (.int xe), .val (.int c1), .val (.int c2), .val (.int xv), .val (.int (2 : Int32)), .val (.ref b21), .val (.int (1 : Int32)), .val (.int x16), .val (.int c2), .val (.int c0), .val (.int c1)] [])) _
        refine XS.aload X183.here hx rfl (hb hby at_307) rfl rfl ?_
        exact k)
    obtain ⟨cq188, kq188, q188a, q188b, q188c⟩ := isOf hZ rfl Ex_185
    obtain ⟨_, _, ⟨T188, L188, k188, n188⟩, -, X188, ⟨Lc188, hQ188, l188, y188, z188⟩, st188⟩ := X183.virtualBack hx (y := (⟨"com/example/fickle/fickle/engine/LeapingChannels", "size", "()I"⟩ : MethodName)) (z := (⟨"com/example/fickle/fickle/engine/LeapingChannels", "size", "()I"⟩ : MethodName)) hown (mvT hZ (hw _ (List.mem_of_getElem? (i := 32) rfl))) (mvT hZ (hw _ (List.mem_of_getElem? (i := 33) rfl))) (notFace_of_selects (args := #[]) (mvT hZ (hw _ (List.mem_of_getElem? (i := 35) rfl)))) (mvT hZ (hw _ (List.mem_of_getElem? (i := 35) rfl))) (mvT hZ (hw _ (List.mem_of_getElem? (i := 34) rfl))) (by decide) (backOf (W := 0) (rm3 l Z a0 hw [] b21 (2 : Int32) T183.heap n0 Zh19 Fs183) hZ (hw _ (List.mem_of_getElem? (i := 36) rfl)) (hw _ (List.mem_of_getElem? (i := 3) rfl)) (by decide) (by decide)) q188a q188c (g := (mkF m 309 #[.val (.int p1), .val (.int p2), .val (.int p3), .val (.int p4), .val (.int p5), .val (.int p6), .val (.int xn), .val (.int c0), .val (.int d1), .val (.int xe), .val (.int c1), .val (.int c2), .val (.int xv), .val (.int (2 : Int32)), .val (.ref b21), .val (.int (1 : Int32)), .val (.int x16), .val (.int c2), .val (.int c0), .val (.int c1)] [(.ref b21)])) rfl (by rw [hml]; rfl) (Steps.refl _) (argsL := []) (rest := []) (lenOf pd_0_2 rfl) rfl (by show 2 * 0 + _ ≤ _; exact Nat.le_of_eq rfl) (hb hby at_309) (fun _ _ => ⟨rfl, rfl, (by decide : 7 + 0 ≤ _), (by decide : 63 + 0 ≤ _)⟩)
    dsimp only [Pt.U, Pt.locs, Pt.cells, Pt.slots] at X188 l188 y188 z188 st188 hQ188
    subst l188 y188 z188
    obtain ⟨rfl, N188q, hh188⟩ := hQ188
    have N188 := Fr.app N183 N188q
    have pre189 : own_Go p e below (s₁.setTop (entryFrame m #[(.int p1), (.int p2), (.int p3), (.int p4), (.int p5), (.int p6)] maxLocals)) (T188.setTop (mkF m 312 #[.val (.int p1), .val (.int p2), .val (.int p3), .val (.int p4), .val (.int p5), .val (.int p6), .val (.int xn), .val (.int c0), .val (.int d1), .val (.int xe), .val (.int c1), .val (.int c2), .val (.int xv), .val (.int (2 : Int32)), .val (.ref b21), .val (.int (1 : Int32)), .val (.int x16), .val (.int c2), .val (.int c0), .val (.int c1)] [(.int (2 : Int32))])) := fun t k => pre187 t (st188.trans k)
    have F_190 := Fm183
    rw [← hh188] at F_190
    have F_191 := Fp183
    rw [← hh188] at F_191
    have F_192 := Fh183
    rw [← hh188] at F_192
    have F_193 := Fs183
    rw [← hh188] at F_193
    have Ex_194 := Ex_185
    rw [← hh188] at Ex_194
    have V_195 := Vm183
    rw [← hh188] at V_195
    have K_196 := K_186
    rw [← hh188] at K_196
    have Zh20 : n0 ≤ T188.heap.size := Nat.le_trans Z0 K_196.1
    have pre197 : own_Go p e below (s₁.setTop (entryFrame m #[(.int p1), (.int p2), (.int p3), (.int p4), (.int p5), (.int p6)] maxLocals)) (T188.setTop (mkF m 319 #[.val (.int p1), .val (.int p2), .val (.int p3), .val (.int p4), .val (.int p5), .val (.int p6), .val (.int xn), .val (.int c0), .val (.int d1), .val (.int xe), .val (.int c1), .val (.int c2), .val (.int xv), .val (.int (2 : Int32)), .val (.ref b21), .val (.int (1 : Int32)), .val (.int x16), .val (.int c2), .val (.int c0), .val (.int c1)] [(.int (0 : Int32)), (.ref b21)])) := fun t k => pre189 t (by
        show Steps p.tables e below (T188.setTop (mkF m 312 #[.val (.int p1), .val (.int p2), .val (.int p3), .val (.int p4), .val (.int p5), .val (.int p6), .val (.int xn), .val (.int c0), .val (.int d1), .val (.int xe), .val (.int c1), .val (.int c2), .val (.int xv), .val (.int (2 : Int32)), .val (.ref b21), .val (.int (1 : Int32)), .val (.int x16), .val (.int c2), .val (.int c0), .val (.int c1)] [(.int (2 : Int32))])) _
        refine XS.iconst X188.here hx rfl (hb hby at_312) ?_
        show Steps p.tables e below (T188.setTop (mkF m 313 #[.val (.int p1), .val (.int p2), .val (.int p3), .val (.int p4), .val (.int p5), .val (.int p6), .val (.int xn), .val (.int c0), .val (.int d1), .val (.int xe), .val (.int c1), .val (.int c2), .val (.int xv), .val (.int (2 : Int32)), .val (.ref b21), .val (.int (1 : Int32)), .val (.int x16), .val (.int c2), .val (.int c0), .val (.int c1)] [(.int (2 : Int32)), (.int (2 : Int32))])) _
        refine XS.icmpNo X188.here hx rfl (hb hby at_313) rfl (XT.ii_ne_f (by decide)) ?_
        show Steps p.tables e below (T188.setTop (mkF m 316 #[.val (.int p1), .val (.int p2), .val (.int p3), .val (.int p4), .val (.int p5), .val (.int p6), .val (.int xn), .val (.int c0), .val (.int d1), .val (.int xe), .val (.int c1), .val (.int c2), .val (.int xv), .val (.int (2 : Int32)), .val (.ref b21), .val (.int (1 : Int32)), .val (.int x16), .val (.int c2), .val (.int c0), .val (.int c1)] [])) _
        refine XS.aload X188.here hx rfl (hb hby at_316) rfl rfl ?_
        show Steps p.tables e below (T188.setTop (mkF m 318 #[.val (.int p1), .val (.int p2), .val (.int p3), .val (.int p4), .val (.int p5), .val (.int p6), .val (.int xn), .val (.int c0), .val (.int d1), .val (.int xe), .val (.int c1), .val (.int c2), .val (.int xv), .val (.int (2 : Int32)), .val (.ref b21), .val (.int (1 : Int32)), .val (.int x16), .val (.int c2), .val (.int c0), .val (.int c1)] [(.ref b21)])) _
        refine XS.iconst X188.here hx rfl (hb hby at_318) ?_
        exact k)
    obtain ⟨cq198, kq198, q198a, q198b, q198c⟩ := isOf hZ rfl Ex_194
    obtain ⟨_, _, ⟨T198, L198, k198, n198⟩, -, X198, ⟨Lc198, hQ198, l198, y198, z198⟩, st198⟩ := X188.virtualBack hx (y := (⟨"com/example/fickle/fickle/engine/LeapingChannels", "get", "(I)I"⟩ : MethodName)) (z := (⟨"com/example/fickle/fickle/engine/LeapingChannels", "get", "(I)I"⟩ : MethodName)) hown (mvT hZ (hw _ (List.mem_of_getElem? (i := 37) rfl))) (mvT hZ (hw _ (List.mem_of_getElem? (i := 38) rfl))) (notFace_of_selects (args := #[]) (mvT hZ (hw _ (List.mem_of_getElem? (i := 40) rfl)))) (mvT hZ (hw _ (List.mem_of_getElem? (i := 40) rfl))) (mvT hZ (hw _ (List.mem_of_getElem? (i := 39) rfl))) (by decide) (backOf (W := 0) (rm4 l Z a0 hw [] b21 am (0 : Int32) xn c0 _ T188.heap n0 Zh20 F_190 V_195 (by decide) hb0 ((own_upd_miss _ _ (by decide)).trans ((own_upd_miss _ _ (by decide)).trans ((own_upd_miss _ _ (by decide)).trans (own_upd_hit _ _ rfl))))) hZ (hw _ (List.mem_of_getElem? (i := 41) rfl)) (hw _ (List.mem_of_getElem? (i := 3) rfl)) (by decide) (by decide)) q198a q198c (g := (mkF m 319 #[.val (.int p1), .val (.int p2), .val (.int p3), .val (.int p4), .val (.int p5), .val (.int p6), .val (.int xn), .val (.int c0), .val (.int d1), .val (.int xe), .val (.int c1), .val (.int c2), .val (.int xv), .val (.int (2 : Int32)), .val (.ref b21), .val (.int (1 : Int32)), .val (.int x16), .val (.int c2), .val (.int c0), .val (.int c1)] [(.int (0 : Int32)), (.ref b21)])) rfl (by rw [hml]; rfl) (Steps.refl _) (argsL := [(.int (0 : Int32))]) (rest := []) (lenOf pd_0_3 rfl) rfl (by show 2 * 0 + _ ≤ _; exact Nat.le_of_eq rfl) (hb hby at_319) (fun _ _ => ⟨rfl, rfl, (by decide : 7 + 0 ≤ _), (by decide : 63 + 0 ≤ _)⟩)
    dsimp only [Pt.U, Pt.locs, Pt.cells, Pt.slots] at X198 l198 y198 z198 st198 hQ198
    subst l198 y198 z198
    obtain ⟨rfl, N198q, hh198⟩ := hQ198
    have N198 := Fr.app N188 N198q
    have pre199 : own_Go p e below (s₁.setTop (entryFrame m #[(.int p1), (.int p2), (.int p3), (.int p4), (.int p5), (.int p6)] maxLocals)) (T198.setTop (mkF m 322 #[.val (.int p1), .val (.int p2), .val (.int p3), .val (.int p4), .val (.int p5), .val (.int p6), .val (.int xn), .val (.int c0), .val (.int d1), .val (.int xe), .val (.int c1), .val (.int c2), .val (.int xv), .val (.int (2 : Int32)), .val (.ref b21), .val (.int (1 : Int32)), .val (.int x16), .val (.int c2), .val (.int c0), .val (.int c1)] [(.int c0)])) := fun t k => pre197 t (st198.trans k)
    have F_200 := F_190
    rw [← hh198] at F_200
    have F_201 := F_191
    rw [← hh198] at F_201
    have F_202 := F_192
    rw [← hh198] at F_202
    have F_203 := F_193
    rw [← hh198] at F_203
    have Ex_204 := Ex_194
    rw [← hh198] at Ex_204
    have V_205 := V_195
    rw [← hh198] at V_205
    have K_206 := K_196
    rw [← hh198] at K_206
    have Zh21 : n0 ≤ T198.heap.size := Nat.le_trans Z0 K_206.1
    have pre207 : own_Go p e below (s₁.setTop (entryFrame m #[(.int p1), (.int p2), (.int p3), (.int p4), (.int p5), (.int p6)] maxLocals)) (T198.setTop (mkF m 330 #[.val (.int p1), .val (.int p2), .val (.int p3), .val (.int p4), .val (.int p5), .val (.int p6), .val (.int xn), .val (.int c0), .val (.int d1), .val (.int xe), .val (.int c1), .val (.int c2), .val (.int xv), .val (.int (2 : Int32)), .val (.ref b21), .val (.int (1 : Int32)), .val (.int x16), .val (.int c2), .val (.int c0), .val (.int c1)] [(.int (1 : Int32)), (.ref b21)])) := fun t k => pre199 t (by
        show Steps p.tables e below (T198.setTop (mkF m 322 #[.val (.int p1), .val (.int p2), .val (.int p3), .val (.int p4), .val (.int p5), .val (.int p6), .val (.int xn), .val (.int c0), .val (.int d1), .val (.int xe), .val (.int c1), .val (.int c2), .val (.int xv), .val (.int (2 : Int32)), .val (.ref b21), .val (.int (1 : Int32)), .val (.int x16), .val (.int c2), .val (.int c0), .val (.int c1)] [(.int c0)])) _
        refine XS.iload X198.here hx rfl (hb hby at_322) rfl ?_
        show Steps p.tables e below (T198.setTop (mkF m 324 #[.val (.int p1), .val (.int p2), .val (.int p3), .val (.int p4), .val (.int p5), .val (.int p6), .val (.int xn), .val (.int c0), .val (.int d1), .val (.int xe), .val (.int c1), .val (.int c2), .val (.int xv), .val (.int (2 : Int32)), .val (.ref b21), .val (.int (1 : Int32)), .val (.int x16), .val (.int c2), .val (.int c0), .val (.int c1)] [(.int c0), (.int c0)])) _
        refine XS.icmpNo X198.here hx rfl (hb hby at_324) rfl (XT.ii_ne_f rfl) ?_
        show Steps p.tables e below (T198.setTop (mkF m 327 #[.val (.int p1), .val (.int p2), .val (.int p3), .val (.int p4), .val (.int p5), .val (.int p6), .val (.int xn), .val (.int c0), .val (.int d1), .val (.int xe), .val (.int c1), .val (.int c2), .val (.int xv), .val (.int (2 : Int32)), .val (.ref b21), .val (.int (1 : Int32)), .val (.int x16), .val (.int c2), .val (.int c0), .val (.int c1)] [])) _
        refine XS.aload X198.here hx rfl (hb hby at_327) rfl rfl ?_
        show Steps p.tables e below (T198.setTop (mkF m 329 #[.val (.int p1), .val (.int p2), .val (.int p3), .val (.int p4), .val (.int p5), .val (.int p6), .val (.int xn), .val (.int c0), .val (.int d1), .val (.int xe), .val (.int c1), .val (.int c2), .val (.int xv), .val (.int (2 : Int32)), .val (.ref b21), .val (.int (1 : Int32)), .val (.int x16), .val (.int c2), .val (.int c0), .val (.int c1)] [(.ref b21)])) _
        refine XS.iconst X198.here hx rfl (hb hby at_329) ?_
        exact k)
    obtain ⟨cq208, kq208, q208a, q208b, q208c⟩ := isOf hZ rfl Ex_204
    obtain ⟨_, _, ⟨T208, L208, k208, n208⟩, -, X208, ⟨Lc208, hQ208, l208, y208, z208⟩, st208⟩ := X198.virtualBack hx (y := (⟨"com/example/fickle/fickle/engine/LeapingChannels", "get", "(I)I"⟩ : MethodName)) (z := (⟨"com/example/fickle/fickle/engine/LeapingChannels", "get", "(I)I"⟩ : MethodName)) hown (mvT hZ (hw _ (List.mem_of_getElem? (i := 37) rfl))) (mvT hZ (hw _ (List.mem_of_getElem? (i := 38) rfl))) (notFace_of_selects (args := #[]) (mvT hZ (hw _ (List.mem_of_getElem? (i := 40) rfl)))) (mvT hZ (hw _ (List.mem_of_getElem? (i := 40) rfl))) (mvT hZ (hw _ (List.mem_of_getElem? (i := 39) rfl))) (by decide) (backOf (W := 0) (rm4 l Z a0 hw [] b21 am (1 : Int32) xn c1 _ T198.heap n0 Zh21 F_200 V_205 (by decide) hb1 ((own_upd_miss _ _ (by decide)).trans ((own_upd_miss _ _ (by decide)).trans (own_upd_hit _ _ rfl)))) hZ (hw _ (List.mem_of_getElem? (i := 41) rfl)) (hw _ (List.mem_of_getElem? (i := 3) rfl)) (by decide) (by decide)) q208a q208c (g := (mkF m 330 #[.val (.int p1), .val (.int p2), .val (.int p3), .val (.int p4), .val (.int p5), .val (.int p6), .val (.int xn), .val (.int c0), .val (.int d1), .val (.int xe), .val (.int c1), .val (.int c2), .val (.int xv), .val (.int (2 : Int32)), .val (.ref b21), .val (.int (1 : Int32)), .val (.int x16), .val (.int c2), .val (.int c0), .val (.int c1)] [(.int (1 : Int32)), (.ref b21)])) rfl (by rw [hml]; rfl) (Steps.refl _) (argsL := [(.int (1 : Int32))]) (rest := []) (lenOf pd_0_3 rfl) rfl (by show 2 * 0 + _ ≤ _; exact Nat.le_of_eq rfl) (hb hby at_330) (fun _ _ => ⟨rfl, rfl, (by decide : 7 + 0 ≤ _), (by decide : 63 + 0 ≤ _)⟩)
    dsimp only [Pt.U, Pt.locs, Pt.cells, Pt.slots] at X208 l208 y208 z208 st208 hQ208
    subst l208 y208 z208
    obtain ⟨rfl, N208q, hh208⟩ := hQ208
    have N208 := Fr.app N198 N208q
    have pre209 : own_Go p e below (s₁.setTop (entryFrame m #[(.int p1), (.int p2), (.int p3), (.int p4), (.int p5), (.int p6)] maxLocals)) (T208.setTop (mkF m 333 #[.val (.int p1), .val (.int p2), .val (.int p3), .val (.int p4), .val (.int p5), .val (.int p6), .val (.int xn), .val (.int c0), .val (.int d1), .val (.int xe), .val (.int c1), .val (.int c2), .val (.int xv), .val (.int (2 : Int32)), .val (.ref b21), .val (.int (1 : Int32)), .val (.int x16), .val (.int c2), .val (.int c0), .val (.int c1)] [(.int c1)])) := fun t k => pre207 t (st208.trans k)
    have F_210 := F_200
    rw [← hh208] at F_210
    have F_211 := F_201
    rw [← hh208] at F_211
    have F_212 := F_202
    rw [← hh208] at F_212
    have F_213 := F_203
    rw [← hh208] at F_213
    have Ex_214 := Ex_204
    rw [← hh208] at Ex_214
    have V_215 := V_205
    rw [← hh208] at V_215
    have K_216 := K_206
    rw [← hh208] at K_216
    have pre217 : own_Go p e below (s₁.setTop (entryFrame m #[(.int p1), (.int p2), (.int p3), (.int p4), (.int p5), (.int p6)] maxLocals)) (T208.setTop (mkF m 347 #[.val (.int p1), .val (.int p2), .val (.int p3), .val (.int p4), .val (.int p5), .val (.int p6), .val (.int xn), .val (.int c0), .val (.int d1), .val (.int xe), .val (.int c1), .val (.int c2), .val (.int xv), .val (.int (2 : Int32)), .val (.ref b21), .val (.int (1 : Int32)), .val (.int x16), .val (.int c2), .val (.int c0), .val (.int c1)] [(.int (1 : Int32))])) := fun t k => pre209 t (by
        show Steps p.tables e below (T208.setTop (mkF m 333 #[.val (.int p1), .val (.int p2), .val (.int p3), .val (.int p4), .val (.int p5), .val (.int p6), .val (.int xn), .val (.int c0), .val (.int d1), .val (.int xe), .val (.int c1), .val (.int c2), .val (.int xv), .val (.int (2 : Int32)), .val (.ref b21), .val (.int (1 : Int32)), .val (.int x16), .val (.int c2), .val (.int c0), .val (.int c1)] [(.int c1)])) _
        refine XS.iload X208.here hx rfl (hb hby at_333) rfl ?_
        show Steps p.tables e below (T208.setTop (mkF m 335 #[.val (.int p1), .val (.int p2), .val (.int p3), .val (.int p4), .val (.int p5), .val (.int p6), .val (.int xn), .val (.int c0), .val (.int d1), .val (.int xe), .val (.int c1), .val (.int c2), .val (.int xv), .val (.int (2 : Int32)), .val (.ref b21), .val (.int (1 : Int32)), .val (.int x16), .val (.int c2), .val (.int c0), .val (.int c1)] [(.int c1), (.int c1)])) _
        refine XS.icmpNo X208.here hx rfl (hb hby at_335) rfl (XT.ii_ne_f rfl) ?_
        show Steps p.tables e below (T208.setTop (mkF m 338 #[.val (.int p1), .val (.int p2), .val (.int p3), .val (.int p4), .val (.int p5), .val (.int p6), .val (.int xn), .val (.int c0), .val (.int d1), .val (.int xe), .val (.int c1), .val (.int c2), .val (.int xv), .val (.int (2 : Int32)), .val (.ref b21), .val (.int (1 : Int32)), .val (.int x16), .val (.int c2), .val (.int c0), .val (.int c1)] [])) _
        refine XS.iconst X208.here hx rfl (hb hby at_338) ?_
        show Steps p.tables e below (T208.setTop (mkF m 339 #[.val (.int p1), .val (.int p2), .val (.int p3), .val (.int p4), .val (.int p5), .val (.int p6), .val (.int xn), .val (.int c0), .val (.int d1), .val (.int xe), .val (.int c1), .val (.int c2), .val (.int xv), .val (.int (2 : Int32)), .val (.ref b21), .val (.int (1 : Int32)), .val (.int x16), .val (.int c2), .val (.int c0), .val (.int c1)] [(.int (1 : Int32))])) _
        refine XS.goto X208.here hx rfl (pc0 := 339) (pc' := 343) rfl (hb hby at_339) (by decide) (by decide) ?_
        show Steps p.tables e below (T208.setTop (mkF m 343 #[.val (.int p1), .val (.int p2), .val (.int p3), .val (.int p4), .val (.int p5), .val (.int p6), .val (.int xn), .val (.int c0), .val (.int d1), .val (.int xe), .val (.int c1), .val (.int c2), .val (.int xv), .val (.int (2 : Int32)), .val (.ref b21), .val (.int (1 : Int32)), .val (.int x16), .val (.int c2), .val (.int c0), .val (.int c1)] [(.int (1 : Int32))])) _
        refine XS.istore X208.here hx rfl (hb hby at_343) rfl (l' := #[.val (.int p1), .val (.int p2), .val (.int p3), .val (.int p4), .val (.int p5), .val (.int p6), .val (.int xn), .val (.int c0), .val (.int d1), .val (.int xe), .val (.int c1), .val (.int c2), .val (.int xv), .val (.int (2 : Int32)), .val (.ref b21), .val (.int (1 : Int32)), .val (.int x16), .val (.int c2), .val (.int c0), .val (.int c1)]) rfl ?_
        show Steps p.tables e below (T208.setTop (mkF m 345 #[.val (.int p1), .val (.int p2), .val (.int p3), .val (.int p4), .val (.int p5), .val (.int p6), .val (.int xn), .val (.int c0), .val (.int d1), .val (.int xe), .val (.int c1), .val (.int c2), .val (.int xv), .val (.int (2 : Int32)), .val (.ref b21), .val (.int (1 : Int32)), .val (.int x16), .val (.int c2), .val (.int c0), .val (.int c1)] [])) _
        refine XS.iload X208.here hx rfl (hb hby at_345) rfl ?_
        exact k)
    obtain ⟨fs, hr, hrun, hended, hW, hsame⟩ := X208.leave (v := some (.int (1 : Int32))) (fun h => by rw [Bd.returns] at h; cases h)
    refine ⟨_, _, pre217 _ ?_, hrun, hended, _, _, rfl, ?_, ⟨_, rfl⟩, hW, hsame.mono (by decide) (by decide)⟩
    · show Steps p.tables e below (T208.setTop (mkF m 347 #[.val (.int p1), .val (.int p2), .val (.int p3), .val (.int p4), .val (.int p5), .val (.int p6), .val (.int xn), .val (.int c0), .val (.int d1), .val (.int xe), .val (.int c1), .val (.int c2), .val (.int xv), .val (.int (2 : Int32)), .val (.ref b21), .val (.int (1 : Int32)), .val (.int x16), .val (.int c2), .val (.int c0), .val (.int c1)] [(.int (1 : Int32))])) _
      exact retN X208 hx (t := .boolean) Bd.returns (by simp) (hb hby at_347) hr
    · show Q0 Z p1 p2 p3 p4 p5 p6 h0 n0 _ T208.heap _
      exact ⟨rfl, N208⟩
set_option maxRecDepth 65536 in
set_option maxHeartbeats 40000000 in
theorem comes_1 {Post : Tables → Env → Array Value → State → Outcome → State → Prop} (hpost : ∀ tb e args s v u, (limb_1_1.after args s (.returned v) u = true ∧ limb_1_2.after args s (.returned v) u = true ∧ True) → FrameEnd s (.returned v) u (Jvm.fieldLocs frame_1_writes args s ++ Jvm.arrayLocs frame_1_arrays args s ++ Jvm.staticLocs frame_1_statics s) 24 192 → Post tb e args s (.returned v) u) :
    ArmFor flags0 classFile x code maxLocals ret World_1 tables_1 room_1 Calls_1 rest_1 Pre_1 Post := by
  intro l hfl _ _ p e ha hc hk s m args below hf hA hF happ hP
  obtain ⟨hcalls, hrest, hpre⟩ := hP
  obtain ⟨-, -, -, hnamed, -, -, -, hat⟩ := (Spec.applies_iff hf).mp happ
  obtain ⟨hg, hn⟩ := and_e (Cond.before_iff.mp (show (Jvm.Cond.and given_1 narrow_1).before args s = true from hpre))
  obtain ⟨gc, q0⟩ := and_e hg
  obtain ⟨ga0, q1⟩ := and_e q0
  obtain ⟨ga1, q2⟩ := and_e q1
  obtain ⟨ga2, q3⟩ := and_e q2
  obtain ⟨ga3, q4⟩ := and_e q3
  obtain ⟨ga4, q5⟩ := and_e q4
  have ga5 := q5
  obtain ⟨w0, w1, w2, w3, w4, w5, rfl⟩ : ∃ w0 w1 w2 w3 w4 w5 : Value, args = #[w0, w1, w2, w3, w4, w5] := by
    have hs : args.size = 6 := by simpa [Cond.value, given_1] using gc
    obtain ⟨L⟩ := args
    match L, hs with
    | [w0, w1, w2, w3, w4, w5], _ => exact ⟨w0, w1, w2, w3, w4, w5, rfl⟩
  have hw := fun d (hd : d ∈ tables_1) => atoms_spec (ws := Jvm.Cond.code x code maxLocals ret :: tables_1) hat d (List.mem_cons_of_mem _ hd)
  obtain ⟨i0, ei0⟩ := is_v ga0
  obtain rfl : w0 = (.int i0) := Option.some.inj ei0
  obtain ⟨i1, ei1⟩ := is_v ga1
  obtain rfl : w1 = (.int i1) := Option.some.inj ei1
  obtain ⟨i2, ei2⟩ := is_v ga2
  obtain rfl : w2 = (.int i2) := Option.some.inj ei2
  obtain ⟨i3, ei3⟩ := is_v ga3
  obtain rfl : w3 = (.int i3) := Option.some.inj ei3
  obtain ⟨i4, ei4⟩ := is_v ga4
  obtain rfl : w4 = (.int i4) := Option.some.inj ei4
  obtain ⟨i5, ei5⟩ := is_v ga5
  obtain rfl : w5 = (.int i5) := Option.some.inj ei5
  obtain ⟨n, o, h1, h2, h3, _, L, rfl, ⟨rfl, N⟩, hq⟩ := rm0 l s _ hw tables_1 i0 i1 i2 i3 i4 i5 s.heap s.heap.size (Nat.le_refl _)  p e ha hc hk s m _ below hf ((Spec.applies_iff_loose hf).mp happ).1 ⟨rfl, State.Warmed39.refl s, rfl⟩ trivial
  refine ⟨n, _, h1, h2, h3, hpost _ _ _ _ _ _ ⟨Cond.after_iff.mpr rfl, Cond.after_iff.mpr (eq_i res_at (Term.int_eval (1)) rfl), trivial⟩ ⟨hq.1, hq.2.1, (hq.2.2.sift fun y hy => Or.inr (N y hy)).mono (by decide) (by decide)⟩⟩
theorem main_1_1 : Claimed_1_1 := comes_1 fun _ _ _ _ _ _ h hF => ⟨h.1, hF⟩
theorem main_1_2 : Claimed_1_2 := comes_1 fun _ _ _ _ _ _ h hF => ⟨h.2.1, hF⟩
end Jvm.Pilot.@@N@@
namespace Jvm.Pilot.@@N@@
open Jvm Jvm.ClassFile Sem Op Lib Jvm.Free Jvm.Stand Jvm.Pilot.@@N@@.Jvm.D
/-! MADE BY PROGRAM (witnessworld.py) out of the Statement's table words and the real class files: 11 classes; the members and pool entries that the words name. The judged class is class 1, her method 1. -/
namespace start1
open Jvm.ClassFile
def u (s : String) : CpInfo := .utf8 (stringToUtf16 s)
/-- a pool by its gaps: so many unusable entries, then the entry; so many at the end -/
def gap : Nat → List CpInfo → List CpInfo
  | 0, r => r
  | n + 1, r => .unusable :: gap n r
def poolList (es : List (Nat × CpInfo)) (last : Nat) : List CpInfo := es.foldr (fun e r => gap e.1 (e.2 :: r)) (gap last [])
def pool (es : List (Nat × CpInfo)) (last : Nat) : Array CpInfo := ⟨poolList es last⟩
def fileOf (pool : Array CpInfo) (this : Nat) (attrs : Array Attribute := #[]) (ms : Array MethodInfo := #[]) (fl : Nat := 33) (sup : Nat := 0) (ifs : Array Nat := #[]) (fds : Array FieldInfo := #[]) : ClassFile where
  minorVersion := 0
  majorVersion := 65
  constantPool := pool
  accessFlags := fl
  thisClass := this
  superClass := sup
  interfaces := ifs
  fields := fds
  methods := ms
  attributes := attrs
def plain (name : String) (sup : Option ClassId) : Class where
  name := name
  kind := .ordinary
  loader := none
  accessFlags := 33
  super := sup
  interfaces := #[]
  cf := none
  fields := #[]
  methods := #[]
  instanceTypes := #[]
  staticTypes := #[]
  resolved := #[]
  callSites := []
  init := .initialized
  statics := none
  mirror := none

def pool0 : Array CpInfo := pool [(5, u "<init>"), (0, u "()V"), (1, .class_ 10), (1, u "java/lang/Object")] 113

def k0c0 : Code := { maxStack := 0, maxLocals := 1, code := object_method_1_code, exceptionTable := #[], attributes := #[] }
def k0m0 : Method := { name := "<init>", desc := "()V", sig := { parameters := [], returnType := none }, accessFlags := 1, code := some k0c0 }
/-- java/lang/Object -/
def k0 : Class := { plain "java/lang/Object" none with
  accessFlags := 33
  interfaces := #[]
  cf := some (fileOf pool0 8 #[] #[{ accessFlags := 1, nameIndex := 5, descriptorIndex := 6, attributes := #[] }] 33 0 #[] #[])
  fields := #[]
  methods := #[k0m0]
  instanceTypes := #[]
  staticTypes := #[]
  resolved := Array.replicate 124 none
  statics := none }

def pool1 : Array CpInfo := pool [(2, .class_ 4), (1, u "java/lang/Object"), (0, u "<init>"), (0, u "()V"), (0, .integer 2147483647), (0, .class_ 9), (0, u "com/example/fickle/fickle/engine/LeapingChannels"), (0, .methodref 8 11), (0, .nameAndType 5 12), (0, u "(II)V"), (0, .methodref 8 14), (0, .nameAndType 15 16), (0, u "add"), (0, u "(I)V"), (0, .methodref 8 18), (0, .nameAndType 19 20), (0, u "size"), (0, u "()I"), (0, .methodref 8 22), (0, .nameAndType 23 24), (0, u "get"), (0, u "(I)I"), (0, .methodref 8 26), (0, .nameAndType 27 28), (0, u "contains"), (0, u "(I)Z"), (0, .methodref 8 30), (0, .nameAndType 31 16), (0, u "remove"), (0, .class_ 33), (0, u "com/example/fickle/fickle/engine/LeapingChannelsAddPinLaw"), (2, u "law"), (0, u "(IIIIII)Z")] 3

def k1m0 : Method := { name := "<init>", desc := "()V", sig := { parameters := [], returnType := none }, accessFlags := 1, code := none }
def k1c1 : Code := { maxStack := 4, maxLocals := 20, code := code, exceptionTable := #[], attributes := #[] }
def k1m1 : Method := { name := "law", desc := "(IIIIII)Z", sig := { parameters := [.int, .int, .int, .int, .int, .int], returnType := some .boolean }, accessFlags := 9, code := some k1c1 }
/-- com/example/fickle/fickle/engine/LeapingChannelsAddPinLaw -/
def k1 : Class := { plain "com/example/fickle/fickle/engine/LeapingChannelsAddPinLaw" (some 0) with
  accessFlags := 49
  interfaces := #[]
  cf := some (fileOf pool1 32 #[] #[{ accessFlags := 1, nameIndex := 5, descriptorIndex := 6, attributes := #[] }, { accessFlags := 9, nameIndex := 36, descriptorIndex := 37, attributes := #[] }] 49 2 #[] #[])
  fields := #[]
  methods := #[k1m0, k1m1]
  instanceTypes := #[]
  staticTypes := #[]
  resolved := Array.replicate 41 none
  statics := none }

def pool2 : Array CpInfo := pool [(1, .methodref 2 3), (0, .class_ 4), (0, .nameAndType 5 6), (0, u "java/lang/Object"), (0, u "<init>"), (0, u "()V"), (0, .fieldref 8 9), (0, .class_ 10), (0, .nameAndType 11 12), (0, u "com/example/fickle/fickle/engine/LeapingChannels"), (0, u "members"), (0, u "[I"), (0, .fieldref 8 14), (0, .nameAndType 15 12), (0, u "positions"), (0, .fieldref 8 17), (0, .nameAndType 18 19), (0, u "held"), (0, u "[Z"), (0, .fieldref 8 21), (0, .nameAndType 22 23), (0, u "levels"), (0, u "[B"), (0, .fieldref 8 25), (0, .nameAndType 26 12), (0, u "copied"), (0, .fieldref 8 28), (0, .nameAndType 29 12), (0, u "first"), (0, .fieldref 8 31), (0, .nameAndType 32 33), (0, u "size"), (0, u "I"), (8, u "(I)I"), (2, u "top"), (20, u "(II)V"), (2, u "()I"), (0, u "get"), (0, u "contains"), (0, u "(I)Z"), (0, u "add"), (0, u "(I)V"), (0, u "remove")] 10

def k2c0 : Code := { maxStack := 3, maxLocals := 3, code := prog_25_method_1_code, exceptionTable := #[], attributes := #[] }
def k2m0 : Method := { name := "<init>", desc := "(II)V", sig := { parameters := [.int, .int], returnType := none }, accessFlags := 0, code := some k2c0 }
def k2c1 : Code := { maxStack := 1, maxLocals := 1, code := prog_25_method_2_code, exceptionTable := #[], attributes := #[] }
def k2m1 : Method := { name := "size", desc := "()I", sig := { parameters := [], returnType := some .int }, accessFlags := 0, code := some k2c1 }
def k2c2 : Code := { maxStack := 2, maxLocals := 2, code := prog_25_method_3_code, exceptionTable := #[], attributes := #[] }
def k2m2 : Method := { name := "get", desc := "(I)I", sig := { parameters := [.int], returnType := some .int }, accessFlags := 0, code := some k2c2 }
def k2c3 : Code := { maxStack := 2, maxLocals := 2, code := prog_25_method_4_code, exceptionTable := #[], attributes := #[] }
def k2m3 : Method := { name := "contains", desc := "(I)Z", sig := { parameters := [.int], returnType := some .boolean }, accessFlags := 0, code := some k2c3 }
def k2c4 : Code := { maxStack := 6, maxLocals := 2, code := prog_25_method_5_code, exceptionTable := #[], attributes := #[] }
def k2m4 : Method := { name := "add", desc := "(I)V", sig := { parameters := [.int], returnType := none }, accessFlags := 0, code := some k2c4 }
def k2c5 : Code := { maxStack := 4, maxLocals := 3, code := prog_25_method_6_code, exceptionTable := #[], attributes := #[] }
def k2m5 : Method := { name := "remove", desc := "(I)V", sig := { parameters := [.int], returnType := none }, accessFlags := 0, code := some k2c5 }
/-- com/example/fickle/fickle/engine/LeapingChannels -/
def k2 : Class := { plain "com/example/fickle/fickle/engine/LeapingChannels" (some 0) with
  accessFlags := 48
  interfaces := #[]
  cf := some (fileOf pool2 8 #[] #[{ accessFlags := 0, nameIndex := 5, descriptorIndex := 66, attributes := #[] }, { accessFlags := 0, nameIndex := 32, descriptorIndex := 69, attributes := #[] }, { accessFlags := 0, nameIndex := 70, descriptorIndex := 42, attributes := #[] }, { accessFlags := 0, nameIndex := 71, descriptorIndex := 72, attributes := #[] }, { accessFlags := 0, nameIndex := 73, descriptorIndex := 74, attributes := #[] }, { accessFlags := 0, nameIndex := 75, descriptorIndex := 74, attributes := #[] }] 48 2 #[] #[{ accessFlags := 18, nameIndex := 11, descriptorIndex := 12, attributes := #[] }, { accessFlags := 18, nameIndex := 15, descriptorIndex := 12, attributes := #[] }, { accessFlags := 18, nameIndex := 18, descriptorIndex := 19, attributes := #[] }, { accessFlags := 18, nameIndex := 22, descriptorIndex := 23, attributes := #[] }, { accessFlags := 18, nameIndex := 26, descriptorIndex := 12, attributes := #[] }, { accessFlags := 18, nameIndex := 29, descriptorIndex := 12, attributes := #[] }, { accessFlags := 2, nameIndex := 45, descriptorIndex := 33, attributes := #[] }, { accessFlags := 2, nameIndex := 32, descriptorIndex := 33, attributes := #[] }])
  fields := #[{ name := "members", type := (.array .int), accessFlags := 18, slot := 0, constantValue := 0 }, { name := "positions", type := (.array .int), accessFlags := 18, slot := 1, constantValue := 0 }, { name := "held", type := (.array .boolean), accessFlags := 18, slot := 2, constantValue := 0 }, { name := "levels", type := (.array .byte), accessFlags := 18, slot := 3, constantValue := 0 }, { name := "copied", type := (.array .int), accessFlags := 18, slot := 4, constantValue := 0 }, { name := "first", type := (.array .int), accessFlags := 18, slot := 5, constantValue := 0 }, { name := "top", type := .int, accessFlags := 2, slot := 6, constantValue := 0 }, { name := "size", type := .int, accessFlags := 2, slot := 7, constantValue := 0 }]
  methods := #[k2m0, k2m1, k2m2, k2m3, k2m4, k2m5]
  instanceTypes := #[(.array .int), (.array .int), (.array .boolean), (.array .byte), (.array .int), (.array .int), .int, .int]
  staticTypes := #[]
  resolved := Array.replicate 86 none
  statics := none }

def pool3 : Array CpInfo := pool [(1, u "java/lang/Cloneable"), (0, .class_ 1), (0, u "java/lang/Object"), (0, .class_ 3)] 3

/-- java/lang/Cloneable -/
def k3 : Class := { plain "java/lang/Cloneable" (some 0) with
  accessFlags := 1537
  interfaces := #[]
  cf := some (fileOf pool3 2 #[] #[] 1537 4 #[] #[])
  fields := #[]
  methods := #[]
  instanceTypes := #[]
  staticTypes := #[]
  resolved := Array.replicate 8 none
  statics := none }

def pool4 : Array CpInfo := pool [(1, u "java/io/Serializable"), (0, .class_ 1), (0, u "java/lang/Object"), (0, .class_ 3)] 3

/-- java/io/Serializable -/
def k4 : Class := { plain "java/io/Serializable" (some 0) with
  accessFlags := 1537
  interfaces := #[]
  cf := some (fileOf pool4 2 #[] #[] 1537 4 #[] #[])
  fields := #[]
  methods := #[]
  instanceTypes := #[]
  staticTypes := #[]
  resolved := Array.replicate 8 none
  statics := none }

/-- the primitive boolean -/
def k5 : Class := { plain "boolean" none with kind := .primitive 'Z', accessFlags := 0x411 }
/-- [Z -/
def k6 : Class := { plain "[Z" (some 0) with kind := .array 5 .boolean, interfaces := #[3, 4], accessFlags := 1041 }

/-- the primitive byte -/
def k7 : Class := { plain "byte" none with kind := .primitive 'B', accessFlags := 0x411 }
/-- [B -/
def k8 : Class := { plain "[B" (some 0) with kind := .array 7 .byte, interfaces := #[3, 4], accessFlags := 1041 }

/-- the primitive int -/
def k9 : Class := { plain "int" none with kind := .primitive 'I', accessFlags := 0x411 }
/-- [I -/
def k10 : Class := { plain "[I" (some 0) with kind := .array 9 .int, interfaces := #[3, 4], accessFlags := 1041 }

def heap : Heap := #[]
def classes : Array Class := #[k0, k1, k2, k3, k4, k5, k6, k7, k8, k9, k10]
def interned : List (Array UInt16 × Addr) := []
def slotsUsed : Nat := 0
def theMethod : MethodId := ⟨1, 1⟩
def args0 : Array Value := #[.int 5, .int 6, .int 7, .int 3, .int 2, .int 9]
def aboutOver (below : List Frame) : State where
  vm := { classes := classes, interned := interned.toArray }
  heap := heap
  slotsUsed := slotsUsed
  threads := #[{ frames := .invoking theMethod args0 :: below }]
def below0 : List Frame := [.native { method := ⟨0, 0⟩, args := #[] }]
def about1 : State := aboutOver below0
def p0 : Program := .bare "" "" ""
def e0 : Env := launch0.env 0 0 0
theorem w_frames : about1.frames = Frame.invoking theMethod args0 :: below0 := rfl
set_option maxRecDepth 65536 in
theorem w_args : argsFit about1.vm theMethod args0 = true := by decide +kernel
set_option maxRecDepth 65536 in
theorem w_heap : heapFits about1 = true := by decide +kernel
set_option maxRecDepth 65536 in
theorem w_runnable : about1.curStatus? = some .runnable := by decide +kernel
set_option maxRecDepth 65536 in
theorem w_alone : about1.alone = true := by decide +kernel
set_option maxRecDepth 65536 in
theorem w_named : about1.methodNamed? x = some theMethod := by decide +kernel
set_option maxRecDepth 65536 in
theorem w_hears : about1.hears theMethod below0 = true := by decide +kernel
set_option maxRecDepth 65536 in
theorem w_ripe : about1.ripe theMethod args0 below0 = true := by decide +kernel
theorem w_running : about1.status = .running := rfl
set_option maxRecDepth 65536 in
theorem w_room : about1.hasRoom e0.platform room_1 = true :=
  launch0.hasRoom_least _ room_1 (by decide +kernel) (by decide +kernel) (by decide +kernel) (by decide +kernel) (by decide +kernel) (by decide +kernel)
theorem allAtoms_all (ts : List Jvm.Cond) (a : Array Jvm.Value) (st : Jvm.State) : (allAtoms ts).before a st = ts.all (fun c => c.before a st) := by
  induction ts with
  | nil => rfl
  | cons c t ih =>
    show (Jvm.Cond.and c (allAtoms t)).before a st = _
    rw [Jvm.Cond.before_and, ih, List.all_cons]
def words1 : List Jvm.Cond := Jvm.Cond.code x code maxLocals ret :: tables_1
/-- a 'code' word, met by the world's own term for the bytes: nothing is compared byte by byte -/
theorem code_word {y : MethodName} {bytes : ByteArray} {mx : Nat} {rt : Option FieldType} {a : Array Value} {s : State} {m : MethodId} {meth : Method} {c : Code} (h1 : s.methodNamed? y = some m) (h2 : s.vm.method? m = some meth) (h3 : meth.code = some c) (h4 : c.code = bytes)
    (h5 : (c.maxLocals == mx && c.exceptionTable.isEmpty && decide (c.maxStack ≤ mostOperands) && decide (meth.sig.returnType = rt) && !meth.locks && decide (parseMethodDescriptor y.desc = some meth.sig)) = true) : (Jvm.Cond.code y bytes mx rt).before a s = true := by
  simp only [Bool.and_eq_true, beq_iff_eq, Bool.not_eq_true', decide_eq_true_eq] at h5
  obtain ⟨⟨⟨⟨⟨g1, g2⟩, g3⟩, g4⟩, g5⟩, g6⟩ := h5
  simp [Cond.before, Cond.holds, Cond.value, h1, h2, h3, h4, g1, g2, g3, g4, g5, g6]
def isCode : Jvm.Cond → Bool
  | .code _ _ _ _ => true
  | _ => false
theorem all_split {L : List Jvm.Cond} {P : Jvm.Cond → Bool} (h1 : L.all (fun c => isCode c || P c) = true) (h2 : ∀ c ∈ L.filter isCode, P c = true) : L.all P = true := by
  refine List.all_eq_true.mpr fun c hc => ?_
  have h := List.all_eq_true.mp h1 c hc
  rcases Bool.eq_false_or_eq_true (isCode c) with hi | hi
  · exact h2 c (List.mem_filter.mpr ⟨hc, hi⟩)
  · simpa [hi] using h
set_option maxRecDepth 65536 in
theorem w_c0 : (Jvm.Cond.code x code maxLocals ret).before args0 about1 = true := code_word (m := ⟨1, 1⟩) (meth := k1m1) (c := k1c1) (by decide +kernel) rfl rfl rfl (by decide +kernel)
set_option maxRecDepth 65536 in
theorem w_c1 : (Jvm.Cond.code ({ cls := "com/example/fickle/fickle/engine/LeapingChannels", name := "<init>", desc := "(II)V" } : Jvm.MethodName) prog_25_method_1_code (3 : Nat) (Option.none : Option Jvm.ClassFile.FieldType)).before args0 about1 = true := code_word (m := ⟨2, 0⟩) (meth := k2m0) (c := k2c0) (by decide +kernel) rfl rfl rfl (by decide +kernel)
set_option maxRecDepth 65536 in
theorem w_c2 : (Jvm.Cond.code ({ cls := "java/lang/Object", name := "<init>", desc := "()V" } : Jvm.MethodName) object_method_1_code (1 : Nat) (Option.none : Option Jvm.ClassFile.FieldType)).before args0 about1 = true := code_word (m := ⟨0, 0⟩) (meth := k0m0) (c := k0c0) (by decide +kernel) rfl rfl rfl (by decide +kernel)
set_option maxRecDepth 65536 in
theorem w_c3 : (Jvm.Cond.code ({ cls := "com/example/fickle/fickle/engine/LeapingChannels", name := "add", desc := "(I)V" } : Jvm.MethodName) prog_25_method_5_code (2 : Nat) (Option.none : Option Jvm.ClassFile.FieldType)).before args0 about1 = true := code_word (m := ⟨2, 4⟩) (meth := k2m4) (c := k2c4) (by decide +kernel) rfl rfl rfl (by decide +kernel)
set_option maxRecDepth 65536 in
theorem w_c4 : (Jvm.Cond.code ({ cls := "com/example/fickle/fickle/engine/LeapingChannels", name := "size", desc := "()I" } : Jvm.MethodName) prog_25_method_2_code (1 : Nat) (Option.some Jvm.ClassFile.FieldType.int)).before args0 about1 = true := code_word (m := ⟨2, 1⟩) (meth := k2m1) (c := k2c1) (by decide +kernel) rfl rfl rfl (by decide +kernel)
set_option maxRecDepth 65536 in
theorem w_c5 : (Jvm.Cond.code ({ cls := "com/example/fickle/fickle/engine/LeapingChannels", name := "get", desc := "(I)I" } : Jvm.MethodName) prog_25_method_3_code (2 : Nat) (Option.some Jvm.ClassFile.FieldType.int)).before args0 about1 = true := code_word (m := ⟨2, 2⟩) (meth := k2m2) (c := k2c2) (by decide +kernel) rfl rfl rfl (by decide +kernel)
set_option maxRecDepth 65536 in
theorem w_c6 : (Jvm.Cond.code ({ cls := "com/example/fickle/fickle/engine/LeapingChannels", name := "contains", desc := "(I)Z" } : Jvm.MethodName) prog_25_method_4_code (2 : Nat) (Option.some Jvm.ClassFile.FieldType.boolean)).before args0 about1 = true := code_word (m := ⟨2, 3⟩) (meth := k2m3) (c := k2c3) (by decide +kernel) rfl rfl rfl (by decide +kernel)
set_option maxRecDepth 65536 in
theorem w_c7 : (Jvm.Cond.code ({ cls := "com/example/fickle/fickle/engine/LeapingChannels", name := "remove", desc := "(I)V" } : Jvm.MethodName) prog_25_method_6_code (3 : Nat) (Option.none : Option Jvm.ClassFile.FieldType)).before args0 about1 = true := code_word (m := ⟨2, 5⟩) (meth := k2m5) (c := k2c5) (by decide +kernel) rfl rfl rfl (by decide +kernel)
def codes1 : List Jvm.Cond := [Jvm.Cond.code x code maxLocals ret, Jvm.Cond.code ({ cls := "com/example/fickle/fickle/engine/LeapingChannels", name := "<init>", desc := "(II)V" } : Jvm.MethodName) prog_25_method_1_code (3 : Nat) (Option.none : Option Jvm.ClassFile.FieldType), Jvm.Cond.code ({ cls := "java/lang/Object", name := "<init>", desc := "()V" } : Jvm.MethodName) object_method_1_code (1 : Nat) (Option.none : Option Jvm.ClassFile.FieldType), Jvm.Cond.code ({ cls := "com/example/fickle/fickle/engine/LeapingChannels", name := "add", desc := "(I)V" } : Jvm.MethodName) prog_25_method_5_code (2 : Nat) (Option.none : Option Jvm.ClassFile.FieldType), Jvm.Cond.code ({ cls := "com/example/fickle/fickle/engine/LeapingChannels", name := "size", desc := "()I" } : Jvm.MethodName) prog_25_method_2_code (1 : Nat) (Option.some Jvm.ClassFile.FieldType.int), Jvm.Cond.code ({ cls := "com/example/fickle/fickle/engine/LeapingChannels", name := "get", desc := "(I)I" } : Jvm.MethodName) prog_25_method_3_code (2 : Nat) (Option.some Jvm.ClassFile.FieldType.int), Jvm.Cond.code ({ cls := "com/example/fickle/fickle/engine/LeapingChannels", name := "contains", desc := "(I)Z" } : Jvm.MethodName) prog_25_method_4_code (2 : Nat) (Option.some Jvm.ClassFile.FieldType.boolean), Jvm.Cond.code ({ cls := "com/example/fickle/fickle/engine/LeapingChannels", name := "remove", desc := "(I)V" } : Jvm.MethodName) prog_25_method_6_code (3 : Nat) (Option.none : Option Jvm.ClassFile.FieldType)]
set_option maxRecDepth 65536 in
theorem codes_eq : words1.filter isCode = codes1 := rfl
theorem w_codes : ∀ c ∈ words1.filter isCode, c.before args0 about1 = true := by
  rw [codes_eq]
  intro c hc
  simp only [codes1, List.mem_cons, List.not_mem_nil, or_false] at hc
  rcases hc with rfl | rfl | rfl | rfl | rfl | rfl | rfl | rfl
  · exact w_c0
  · exact w_c1
  · exact w_c2
  · exact w_c3
  · exact w_c4
  · exact w_c5
  · exact w_c6
  · exact w_c7
set_option maxRecDepth 65536 in
theorem w_t1 : (words1.take 24).all (fun c => isCode c || c.before args0 about1) = true := by decide +kernel
set_option maxRecDepth 65536 in
theorem w_t2 : ((words1.drop 24).take 24).all (fun c => isCode c || c.before args0 about1) = true := by decide +kernel
set_option maxRecDepth 65536 in
theorem w_t3 : ((words1.drop 24).drop 24).all (fun c => isCode c || c.before args0 about1) = true := by decide +kernel
theorem w_tables : (allAtoms (Jvm.Cond.code x code maxLocals ret :: tables_1)).before args0 about1 = true := by
  rw [allAtoms_all]
  show words1.all (fun c => c.before args0 about1) = true
  refine all_split ?_ w_codes
  rw [← List.take_append_drop 24 words1, List.all_append, w_t1, ← List.take_append_drop 24 (words1.drop 24), List.all_append, w_t2, w_t3]
  rfl
set_option maxRecDepth 65536 in
theorem w_case : (Jvm.Cond.and given_1 narrow_1).before args0 about1 = true := by decide +kernel
theorem w_applies : (headSpec (Jvm.Cond.code x code maxLocals ret :: tables_1) room_1).applies x e0.platform about1 = true :=
  (Spec.applies_iff w_frames).mpr ⟨w_running, w_runnable, w_alone, w_named, w_hears, w_ripe, w_room, w_tables⟩
theorem atStart : AtStart classFile x code maxLocals ret World_1 tables_1 room_1 Calls_1 rest_1 Pre_1 launch0 p0 e0 about1 theMethod args0 below0 :=
  ⟨lists_1, trivial, launch0.admits_env _ _ _, launch0.least_env, fairChoices_fair.cas, fairChoices_fair.clock, w_frames, w_args, w_heap, w_applies, trivial, trivial, w_case⟩
end start1
theorem witness_1 : WitnessClaimed_1 := ⟨start1.p0, start1.e0, start1.about1, start1.theMethod, start1.args0, start1.below0, start1.atStart⟩
end Jvm.Pilot.@@N@@
