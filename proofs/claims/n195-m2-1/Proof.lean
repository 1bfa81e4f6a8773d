import JvmDerived
import JvmDerived.Pilot.@@N@@Statement
import JvmDerived.Pilot.@@N@@Code
set_option linter.unusedVariables false
set_option linter.unusedSimpArgs false
namespace Jvm.RoadKit
open Sem ClassFile Op Lib Jvm.Stand Jvm.Free Jvm.LawKit
section New
variable {p : Program} {l : Launch} {e : Env} {R : Room} {s : State} {m : MethodId} {args : Array Value} {below : List Frame} {meth : Method} {c : Code} {T : State} {locs : List Loc} {cells slots : Nat}
theorem retI (X : Stand p l e R s m args below meth c T locs cells slots) (hx : p.tables.exec = Jvm.exec) {pc : Nat} {Ls : Array Slot} {z : Int32} {rest : List Value} (hret : meth.sig.returnType = some .int) (hd : decode c.code pc = .ok (.ireturn, 1)) {fs : List Frame}
    (hl : ∀ (f : JFrame) (acts : List Action), f.method = m → f.locked = none → f.entered = [] → (doReturn e (T.setTop f) acts (some (.int z))).1 = T.setFrames fs) : Steps p.tables e below (T.setTop (mkF m pc Ls (.int z :: rest))) (T.setFrames fs) := by
  have hm' : T.vm.method? m = some meth := X.method'
  have hn : narrow .int (.int z) = .int z := rfl
  show Steps p.tables e below (T.setTop { method := m, pc := pc, locals := Ls, stack := _ :: rest, locked := none }) _
  jvm_step X.here [X.here.top, hx, hd, hm', hret, hn]
  first | (intro acts; rw [hl _ acts rfl rfl rfl]) | rw [hl _ _ rfl rfl rfl]
  exact Steps.refl _
end New
end Jvm.RoadKit
namespace Jvm.Pilot.@@N@@
open Jvm Jvm.ClassFile Sem Op Lib Jvm.Free Jvm.Stand Jvm.LawKit Jvm.RoadKit Bundle Jvm.Pilot.@@N@@.Jvm.D
theorem ow {a0 : Array Value} {Z : State} (hw : ∀ d ∈ tables_1, d.before a0 Z = true) (i : Nat) {d : Jvm.Cond} (h : tables_1[i]? = some d) : d.before a0 Z = true := hw _ (List.mem_of_getElem? h)
abbrev rr0 : Room := { frames := 0, cells := 0, slots := 0, locals := 0 }
/-- a body that writes nothing and makes nothing: it returns r, the heap as it was -/
def QP (r : Option Value) (h0 : Heap) (n0 : Nat) (v : Option Value) (h : Heap) (L : List Loc) : Prop := v = r ∧ Fr n0 L ∧ h = h0
theorem own_fldI {Z : State} {args : Array Value} {t : Term} {C n d : String} {a : Addr} {k : Int32} (ev : t.eval args Z none [] Z = some (.ref a)) (h : (Jvm.Cond.eq (Term.field t C n d) (Term.int k)).value args Z none Z [] = some true) : Fld Z Z.heap a C n d (.int k) := by
  obtain ⟨x, y, e1, e2, k1, k2⟩ := cmp_v (Or.inl h)
  rw [Term.int_eval] at e2
  cases e2
  obtain ⟨z, rfl⟩ := k2
  have e3 : z = k := by simpa [Cond.value, e1, Term.int_eval] using h
  subst e3
  exact Fld.start ((fld_at ev).symm.trans e1)
theorem own_ne {Z : State} {h : Heap} {a b : Addr} {C n d : String} {v w : Value} (F : Fld Z h a C n d v) (G : Fld Z h b C n d w) (hn : v ≠ w) : ¬ (a = b) := by
  rintro rfl
  obtain ⟨c1, _, _, _, f1, h1, h2, -, -, -, -, h7⟩ := F
  obtain ⟨c2, _, _, _, f2, g1, g2, -, -, -, -, g7⟩ := G
  cases h1.symm.trans g1
  cases h2.symm.trans g2
  exact hn (Option.some.inj (h7.symm.trans g7))
theorem own_selP {s : State} {args args' args'' : Array Value} {y : MethodName} {n : Nat} (hi : (Jvm.Cond.instantiable y.cls n).before args s = true) (hp : (Jvm.Cond.privateMethod y).before args' s = true) (hinst : (Jvm.Cond.instanceMethod y).before args'' s = true) (hy : y.cls ≠ "java/lang/invoke/MethodHandle" ∧ y.cls ≠ "java/lang/invoke/VarHandle") : (Jvm.Cond.selects y.cls y y).before args'' s = true := by
  obtain ⟨c, k, h1, h2, -, h4, -⟩ := Cond.instantiable_spec hi
  exact selects_self_of_private h1 h2 (by simp only [Bool.or_eq_false_iff] at h4; exact h4.1) (Cond.privateMethod_at hp) hinst hy
theorem own_mod5 (p : Int32) : (p &&& 2147483647) % 5 = 0 ∨ (p &&& 2147483647) % 5 = 1 ∨ (p &&& 2147483647) % 5 = 2 ∨ (p &&& 2147483647) % 5 = 3 ∨ (p &&& 2147483647) % 5 = 4 := by
  have h := c_mask p 2147483647 31 (by decide) (by decide)
  have h2 := (c_irem (p &&& 2147483647) 5 5 (by decide)).1 (by rw [h]; omega)
  have h3 : ((p &&& 2147483647) % 5).toInt = 0 ∨ ((p &&& 2147483647) % 5).toInt = 1 ∨ ((p &&& 2147483647) % 5).toInt = 2 ∨ ((p &&& 2147483647) % 5).toInt = 3 ∨ ((p &&& 2147483647) % 5).toInt = 4 := by omega
  rcases h3 with q | q | q | q | q
  · exact Or.inl (Int32.toInt_inj.mp q)
  · exact Or.inr (Or.inl (Int32.toInt_inj.mp q))
  · exact Or.inr (Or.inr (Or.inl (Int32.toInt_inj.mp q)))
  · exact Or.inr (Or.inr (Or.inr (Or.inl (Int32.toInt_inj.mp q))))
  · exact Or.inr (Or.inr (Or.inr (Or.inr (Int32.toInt_inj.mp q))))
/-- a place as it stands -/
def PlAt (Z : State) (h : Heap) (a : Addr) (nd tp pa lk : Value) (rk : Int32) : Prop := Exa Z h a "com/example/framelatch/framelatch/Tree$Place" ∧ Fld Z h a "com/example/framelatch/framelatch/Tree$Place" "node" "Ljava/lang/Object;" nd ∧ Fld Z h a "com/example/framelatch/framelatch/Tree$Place" "top" "Ljava/lang/Object;" tp ∧ Fld Z h a "com/example/framelatch/framelatch/Tree$Place" "parent" "Lcom/example/framelatch/framelatch/Tree$Place;" pa ∧ Fld Z h a "com/example/framelatch/framelatch/Tree$Place" "link" "Lcom/example/framelatch/framelatch/Tree$Place;" lk ∧ Fld Z h a "com/example/framelatch/framelatch/Tree$Place" "rank" "I" (.int rk)
def QK (a : Addr) (h0 : Heap) (n0 : Nat) (v : Option Value) (h : Heap) (L : List Loc) : Prop := v = none ∧ Fr n0 L ∧ Keep h0 h [a]
def QV (h0 : Heap) (n0 : Nat) (v : Option Value) (h : Heap) (L : List Loc) : Prop := ∃ a, v = some (.ref a) ∧ Fr n0 L ∧ Ext h0 h
def QP1 (Z : State) (a : Addr) (nd tp pa lk : Value) (rk : Int32) (h0 : Heap) (n0 : Nat) (v : Option Value) (h : Heap) (L : List Loc) : Prop := v = none ∧ Fr n0 L ∧ Keep h0 h [a] ∧ PlAt Z h a nd tp pa lk rk
def QP2 (Z : State) (a : Addr) (nd tp pa lk : Value) (rk : Int32) (b : Addr) (nd' tp' pa' lk' : Value) (rk' : Int32) (h0 : Heap) (n0 : Nat) (v : Option Value) (h : Heap) (L : List Loc) : Prop := v = none ∧ Fr n0 L ∧ Keep h0 h [a, b] ∧ PlAt Z h a nd tp pa lk rk ∧ PlAt Z h b nd' tp' pa' lk' rk'
def QF (h0 : Heap) (n0 : Nat) (v : Option Value) (h : Heap) (L : List Loc) : Prop := v = some (.int (1 : Int32)) ∧ Fr n0 L
def ICache (Z : State) (b : Addr) : Prop := ∃ cl : Cell, Arr Z Z.heap b cl (.object "java/lang/Integer") ∧ cl.slots.size = 256 ∧ ∀ i : Nat, i < 256 → ∃ a, cl.slots[i]? = some (.ref a)
theorem own_idx (q : Int32) (h1 : ¬ q < (-128 : Int32)) (h2 : ¬ (127 : Int32) < q) : ¬ (q + (128 : Int32) < 0) ∧ (q + (128 : Int32)).toNatClampNeg < 256 := by
  rw [Int32.lt_iff_toInt_lt] at h1 h2
  have e1 : (-128 : Int32).toInt = -128 := by decide
  have e2 : (127 : Int32).toInt = 127 := by decide
  rw [e1] at h1
  rw [e2] at h2
  have a4 := c_iadd q 128
  have e3 : (128 : Int32).toInt = 128 := by decide
  have a5 := rng32 (q + 128)
  have a6 : (q + 128).toInt = q.toInt + 128 := by omega
  refine ⟨?_, ?_⟩
  · rw [Int32.lt_iff_toInt_lt, a6]
    have e4 : (0 : Int32).toInt = 0 := by decide
    omega
  · show (q + 128).toInt.toNat < 256
    rw [a6]
    omega
abbrev rr_1_0_0_12 : Room := { frames := 1, cells := 0, slots := 0, locals := 12 }
theorem d8_0 : decode jdk_18_method_1_code 0 = .ok (.aload_n 0, 1) := by decide +kernel
theorem d8_1 : decode jdk_18_method_1_code 1 = .ok (.invokespecial 1, 3) := by decide +kernel
theorem d8_4 : decode jdk_18_method_1_code 4 = .ok (.return_, 1) := by decide +kernel
theorem pn_java_lang_Number : plainName "java/lang/Number" = true := by first | (simp [plainName, overriddenIn]; done) | decide +kernel
theorem ef_8 (m : MethodId) (x0 : Addr) : entryFrame m #[(.ref x0)] 1 = mkF m 0 #[.val (.ref x0)] [] := by first | (simp [entryFrame, mkF, argsToLocals, Value.category]; done) | rfl
abbrev nm_8 : MethodName := ⟨"java/lang/Number", "<init>", "()V"⟩
set_option maxRecDepth 65536 in
set_option maxHeartbeats 40000000 in
theorem rm8 (l : Launch) (Z : State) (a0 : Array Value) (hw : ∀ d ∈ tables_1, d.before a0 Z = true) (ws : List Jvm.Cond) (a1 : Addr) (h0 : Heap) (n0 : Nat) (Z0 : n0 ≤ h0.size) :
    MetFree l nm_8 (head1 (Jvm.Cond.code nm_8 jdk_18_method_1_code 1 none :: ws) rr_1_0_0_12) (fun aa U => aa = #[(.ref a1)] ∧ Z.Warmed39 U.vm ∧ U.heap = h0) (fun _ _ _ _ _ => True) (fun _ U o U' => ∃ v L, o = .returned v ∧ QP none h0 n0 v U'.heap L ∧ FrameEnd U o U' L rr_1_0_0_12.cells rr_1_0_0_12.slots) := by
  refine MetFree.of_bodySF (plainFor_of_name pn_java_lang_Number) hisR ?_
  intro p e s m args below meth c s₁ Bd hml0 hP hK
  obtain ⟨rfl, hZ, hh⟩ := hP
  have hx := Bd.exec
  have hby := Bd.bytes
  have hml : c.maxLocals = 1 := hml0
  have hown : s.vm.findClass "java/lang/Number" = some m.cls := findClass_of_methodNamed Bd.named
  have hnm := (name_of_methodNamed Bd.named Bd.method).1
  have X0 : Stand p l e rr_1_0_0_12 s m #[(.ref a1)] below meth c s₁ [] 0 0 := Stand.of_body Bd
  have e0 : s₁.heap = h0 := by rw [← hh, Bd.state]; rfl
  have N0 := Fr.nil n0
  have pre0 : ∀ t, Steps p.tables e below (s₁.setTop (mkF m 0 #[.val (.ref a1)] [])) t → Steps p.tables e below (s₁.setTop (entryFrame m #[(.ref a1)] 1)) t := fun t k => castTop (ef_8 m a1) k
  obtain ⟨T1, X1, e1, st1⟩ := initO X0 hx hZ hown (ow hw 53 rfl) (ow hw 14 rfl) (ow hw 15 rfl) e0 (g := (mkF m 1 #[.val (.ref a1)] [(.ref a1)])) rfl (by rw [hml]; rfl) rfl (hb hby d8_1) (by decide) (W := 0) (by show 2 * 0 + _ ≤ _; exact Nat.le_of_eq rfl) (by decide)
  obtain ⟨fs, hr, hrun, hended, hW, hsame⟩ := X1.leave (v := none) (fun _ => rfl)
  refine ⟨_, _, pre0 _ ?_, hrun, hended, _, _, rfl, ?_, ⟨_, rfl⟩, hW, hsame.mono (by decide) (by decide)⟩
  · show Steps p.tables e below (s₁.setTop (mkF m 0 #[.val (.ref a1)] [])) _
    refine XS.aloadN X0.here hx rfl (hb hby d8_0) rfl rfl ?_
    show Steps p.tables e below (s₁.setTop (mkF m 1 #[.val (.ref a1)] [(.ref a1)])) _
    refine st1 _ ?_
    show Steps p.tables e below (T1.setTop (mkF m 4 #[.val (.ref a1)] [])) _
    exact X1.returnOut hx Bd.returns (hb hby d8_4) hr
  · show QP none h0 n0 _ T1.heap _
    rw [e1]
    exact ⟨rfl, N0, rfl⟩
abbrev rr_2_0_0_24 : Room := { frames := 2, cells := 0, slots := 0, locals := 24 }
theorem d7_0 : decode jdk_33_method_23_code 0 = .ok (.aload_n 0, 1) := by decide +kernel
theorem pd_2 : parseMethodDescriptor "()V" = some ⟨[], none⟩ := by decide +kernel
theorem d7_1 : decode jdk_33_method_23_code 1 = .ok (.invokespecial 202, 3) := by decide +kernel
theorem d7_4 : decode jdk_33_method_23_code 4 = .ok (.aload_n 0, 1) := by decide +kernel
theorem d7_5 : decode jdk_33_method_23_code 5 = .ok (.iload_n 1, 1) := by decide +kernel
theorem d7_6 : decode jdk_33_method_23_code 6 = .ok (.putfield 205, 3) := by decide +kernel
theorem d7_9 : decode jdk_33_method_23_code 9 = .ok (.return_, 1) := by decide +kernel
theorem pn_java_lang_Integer : plainName "java/lang/Integer" = true := by first | (simp [plainName, overriddenIn]; done) | decide +kernel
theorem ef_7 (m : MethodId) (x0 : Addr) (x1 : Int32) : entryFrame m #[(.ref x0), (.int x1)] 2 = mkF m 0 #[.val (.ref x0), .val (.int x1)] [] := by first | (simp [entryFrame, mkF, argsToLocals, Value.category]; done) | rfl
abbrev nm_7 : MethodName := ⟨"java/lang/Integer", "<init>", "(I)V"⟩
set_option maxRecDepth 65536 in
set_option maxHeartbeats 40000000 in
theorem rm7 (l : Launch) (Z : State) (a0 : Array Value) (hw : ∀ d ∈ tables_1, d.before a0 Z = true) (ws : List Jvm.Cond) (a1 : Addr) (p2 : Int32) (h0 : Heap) (n0 : Nat) (Z0 : n0 ≤ h0.size) (g0_a1 : n0 ≤ a1) (EA : Exa Z h0 a1 "java/lang/Integer") (FA : Fld Z h0 a1 "java/lang/Integer" "value" "I" (.int (0 : Int32))) :
    MetFree l nm_7 (head1 (Jvm.Cond.code nm_7 jdk_33_method_23_code 2 none :: ws) rr_2_0_0_24) (fun aa U => aa = #[(.ref a1), (.int p2)] ∧ Z.Warmed39 U.vm ∧ U.heap = h0) (fun _ _ _ _ _ => True) (fun _ U o U' => ∃ v L, o = .returned v ∧ QK a1 h0 n0 v U'.heap L ∧ FrameEnd U o U' L rr_2_0_0_24.cells rr_2_0_0_24.slots) := by
  refine MetFree.of_bodySF (plainFor_of_name pn_java_lang_Integer) hisR ?_
  intro p e s m args below meth c s₁ Bd hml0 hP hK
  obtain ⟨rfl, hZ, hh⟩ := hP
  have hx := Bd.exec
  have hby := Bd.bytes
  have hml : c.maxLocals = 2 := hml0
  have hown : s.vm.findClass "java/lang/Integer" = some m.cls := findClass_of_methodNamed Bd.named
  have hnm := (name_of_methodNamed Bd.named Bd.method).1
  have X0 : Stand p l e rr_2_0_0_24 s m #[(.ref a1), (.int p2)] below meth c s₁ [] 0 0 := Stand.of_body Bd
  have e0 : s₁.heap = h0 := by rw [← hh, Bd.state]; rfl
  have N0 := Fr.nil n0
  have pre0 : ∀ t, Steps p.tables e below (s₁.setTop (mkF m 0 #[.val (.ref a1), .val (.int p2)] [])) t → Steps p.tables e below (s₁.setTop (entryFrame m #[(.ref a1), (.int p2)] 2)) t := fun t k => castTop (ef_7 m a1 p2) k
  obtain ⟨_, _, ⟨T1, L1, k1, n1⟩, -, X1, ⟨Lc1, hQ1, l1, y1, z1⟩, st1⟩ := X0.specialBack hx (y := nm_8) rfl hown (mvT hZ (ow hw 47 rfl)) (mvT hZ (ow hw 48 rfl)) (mvT hZ (ow hw 52 rfl)) (by decide) (backOf (W := 0) (rm8 l Z a0 hw [] a1 h0 n0 Z0) hZ (ow hw 52 rfl) (ow hw 51 rfl) (by decide) (by decide)) (g := (mkF m 1 #[.val (.ref a1), .val (.int p2)] [(.ref a1)])) rfl (by rw [hml]; rfl) (Steps.refl _) (a := a1) (argsL := []) (rest := []) (lenOf pd_2 rfl) rfl (by show 2 * 0 + _ ≤ _; exact Nat.le_of_eq rfl) (hb hby d7_1) (fun _ _ => ⟨rfl, e0, (by decide : 0 + 0 ≤ _), (by decide : 0 + 0 ≤ _)⟩)
  dsimp only [Pt.U, Pt.locs, Pt.cells, Pt.slots] at X1 l1 y1 z1 st1 hQ1
  subst l1 y1 z1
  obtain ⟨rfl, N1q, e1⟩ := hQ1
  have N1 := Fr.app N0 N1q
  obtain ⟨T2, h2, X2, e2, W2, st2⟩ := putF X1 hx hZ hown (host := "") (Or.inl (ow hw 54 rfl)) Via.refl e1 FA EA (Or.inr ⟨(ow hw 55 rfl), rfl, hnm⟩) (ow hw 42 rfl) (ty := .int) (by decide) rfl rfl (g := (mkF m 6 #[.val (.ref a1), .val (.int p2)] [(.int p2), (.ref a1)])) rfl rfl (hb hby d7_6)
  have Fw2 := FA.same W2
  have N2 := Fr.snoc X2 N1 g0_a1
  have kp3 : Keep h0 h2 [a1] := ((Keep.refl h0 [a1]).wr W2 (Or.inl (List.mem_of_getElem? (i := 0) rfl)))
  obtain ⟨fs, hr, hrun, hended, hW, hsame⟩ := X2.leave (v := none) (fun _ => rfl)
  refine ⟨_, _, pre0 _ ?_, hrun, hended, _, _, rfl, ?_, ⟨_, rfl⟩, hW, hsame.mono (by decide) (by decide)⟩
  · show Steps p.tables e below (s₁.setTop (mkF m 0 #[.val (.ref a1), .val (.int p2)] [])) _
    refine XS.aloadN X0.here hx rfl (hb hby d7_0) rfl rfl ?_
    show Steps p.tables e below (s₁.setTop (mkF m 1 #[.val (.ref a1), .val (.int p2)] [(.ref a1)])) _
    refine st1.trans ?_
    show Steps p.tables e below (T1.setTop (mkF m 4 #[.val (.ref a1), .val (.int p2)] [])) _
    refine XS.aloadN X1.here hx rfl (hb hby d7_4) rfl rfl ?_
    show Steps p.tables e below (T1.setTop (mkF m 5 #[.val (.ref a1), .val (.int p2)] [(.ref a1)])) _
    refine XS.iloadN X1.here hx rfl (hb hby d7_5) rfl ?_
    show Steps p.tables e below (T1.setTop (mkF m 6 #[.val (.ref a1), .val (.int p2)] [(.int p2), (.ref a1)])) _
    refine st2 _ ?_
    show Steps p.tables e below (T2.setTop (mkF m 9 #[.val (.ref a1), .val (.int p2)] [])) _
    exact X2.returnOut hx Bd.returns (hb hby d7_9) hr
  · show QK a1 h0 n0 _ T2.heap _
    rw [e2]
    exact ⟨rfl, N2, kp3⟩
abbrev rr_3_1_1_38 : Room := { frames := 3, cells := 1, slots := 1, locals := 38 }
theorem d1_0 : decode jdk_33_method_22_code 0 = .ok (.iload_n 0, 1) := by decide +kernel
theorem d1_1 : decode jdk_33_method_22_code 1 = .ok (.bipush (-128), 2) := by decide +kernel
theorem d1_3 : decode jdk_33_method_22_code 3 = .ok (.if_icmp .lt 20, 3) := by decide +kernel
theorem d1_23 : decode jdk_33_method_22_code 23 = .ok (.new 1, 3) := by decide +kernel
theorem d1_26 : decode jdk_33_method_22_code 26 = .ok (.dup, 1) := by decide +kernel
theorem d1_27 : decode jdk_33_method_22_code 27 = .ok (.iload_n 0, 1) := by decide +kernel
theorem pd_6 : parseMethodDescriptor "(I)V" = some ⟨[.int], none⟩ := by decide +kernel
theorem d1_28 : decode jdk_33_method_22_code 28 = .ok (.invokespecial 199, 3) := by decide +kernel
theorem d1_31 : decode jdk_33_method_22_code 31 = .ok (.areturn, 1) := by decide +kernel
theorem ef_1 (m : MethodId) (x0 : Int32) : entryFrame m #[(.int x0)] 1 = mkF m 0 #[.val (.int x0)] [] := by first | (simp [entryFrame, mkF, argsToLocals, Value.category]; done) | rfl
abbrev nm_1 : MethodName := ⟨"java/lang/Integer", "valueOf", "(I)Ljava/lang/Integer;"⟩
set_option maxRecDepth 65536 in
set_option maxHeartbeats 40000000 in
theorem rm1_t (l : Launch) (Z : State) (a0 : Array Value) (hw : ∀ d ∈ tables_1, d.before a0 Z = true) (ws : List Jvm.Cond) (p1 : Int32) (h0 : Heap) (n0 : Nat) (Z0 : n0 ≤ h0.size) (SHh : Sta Z h0 "java/lang/Integer$IntegerCache" "high" "I" (.int (127 : Int32))) (hc3 : p1 < (-128 : Int32)) :
    MetFree l nm_1 (head1 (Jvm.Cond.code nm_1 jdk_33_method_22_code 1 (some (.object "java/lang/Integer")) :: ws) rr_3_1_1_38) (fun aa U => aa = #[(.int p1)] ∧ Z.Warmed39 U.vm ∧ U.heap = h0) (fun _ _ _ _ _ => True) (fun _ U o U' => ∃ v L, o = .returned v ∧ QV h0 n0 v U'.heap L ∧ FrameEnd U o U' L rr_3_1_1_38.cells rr_3_1_1_38.slots) := by
  refine MetFree.of_bodySF (plainFor_of_name pn_java_lang_Integer) hisR ?_
  intro p e s m args below meth c s₁ Bd hml0 hP hK
  obtain ⟨rfl, hZ, hh⟩ := hP
  have hx := Bd.exec
  have hby := Bd.bytes
  have hml : c.maxLocals = 1 := hml0
  have hown : s.vm.findClass "java/lang/Integer" = some m.cls := findClass_of_methodNamed Bd.named
  have hnm := (name_of_methodNamed Bd.named Bd.method).1
  have X0 : Stand p l e rr_3_1_1_38 s m #[(.int p1)] below meth c s₁ [] 0 0 := Stand.of_body Bd
  have e0 : s₁.heap = h0 := by rw [← hh, Bd.state]; rfl
  have N0 := Fr.nil n0
  have pre0 : ∀ t, Steps p.tables e below (s₁.setTop (mkF m 0 #[.val (.int p1)] [])) t → Steps p.tables e below (s₁.setTop (entryFrame m #[(.int p1)] 1)) t := fun t k => castTop (ef_1 m p1) k
  obtain ⟨T1, h1, X1, e1, E1, A1, D1, -, st1⟩ := newO X0 hx hZ hown (ow hw 41 rfl) (ow hw 42 rfl) (ow hw 2 rfl) e0 (g := (mkF m 23 #[.val (.int p1)] [])) rfl (hb hby d1_23) (by decide) (by decide)
  obtain ⟨b1, g_b1⟩ : ∃ z, z = h0.size := ⟨_, rfl⟩
  rw [← g_b1] at A1 D1 st1
  have g0_b1 : n0 ≤ b1 := Nat.le_trans Z0 (Nat.le_of_eq g_b1.symm)
  have sz_b1 : h0.size ≤ b1 := Nat.le_trans (Nat.le_refl _) (Nat.le_of_eq g_b1.symm)
  have F_value_b1 : Fld Z h1 b1 "java/lang/Integer" "value" "I" (.int (0 : Int32)) := D1 (Or.inr (ow hw 55 rfl)) (ty := .int) (by decide)
  obtain ⟨_, _, ⟨T2, L2, k2, n2⟩, -, X2, ⟨Lc2, hQ2, l2, y2, z2⟩, st2⟩ := X1.specialBack hx (y := nm_7) rfl hown (mvT hZ (ow hw 43 rfl)) (mvT hZ (ow hw 44 rfl)) (mvT hZ (ow hw 46 rfl)) (by decide) (backOf (W := 1) (rm7 l Z a0 hw [] b1 p1 h1 n0 (Nat.le_trans Z0 E1.1) g0_b1 A1 F_value_b1) hZ (ow hw 46 rfl) (ow hw 2 rfl) (by decide) (by decide)) (g := (mkF m 28 #[.val (.int p1)] [(.int p1), (.ref b1), (.ref b1)])) rfl (by rw [hml]; rfl) (Steps.refl _) (a := b1) (argsL := [(.int p1)]) (rest := [(.ref b1)]) (lenOf pd_6 rfl) rfl (by show 2 * 0 + _ ≤ _; exact Nat.le_of_eq rfl) (hb hby d1_28) (fun _ _ => ⟨rfl, e1, (by decide : 1 + 0 ≤ _), (by decide : 1 + 0 ≤ _)⟩)
  dsimp only [Pt.U, Pt.locs, Pt.cells, Pt.slots] at X2 l2 y2 z2 st2 hQ2
  subst l2 y2 z2
  obtain ⟨rfl, N2q, K2⟩ := hQ2
  have N2 := Fr.app N0 N2q
  have ex : Ext h0 T2.heap := ⟨(Nat.le_trans (Nat.le_trans (Nat.le_refl _) E1.1) K2.1), fun x cx hq => K2.2.1 x cx (E1.2 x cx hq) (ninS (Nat.ne_of_lt (Nat.lt_of_lt_of_le (Array.getElem?_eq_some_iff.mp hq).1 (Nat.le_of_eq g_b1.symm))) nin0)⟩
  obtain ⟨fs, hr, hrun, hended, hW, hsame⟩ := X2.leave (v := some (.ref b1)) (fun h => by rw [Bd.returns] at h; cases h)
  refine ⟨_, _, pre0 _ ?_, hrun, hended, _, _, rfl, ?_, ⟨_, rfl⟩, hW, hsame.mono (by decide) (by decide)⟩
  · show Steps p.tables e below (s₁.setTop (mkF m 0 #[.val (.int p1)] [])) _
    refine XS.iloadN X0.here hx rfl (hb hby d1_0) rfl ?_
    show Steps p.tables e below (s₁.setTop (mkF m 1 #[.val (.int p1)] [(.int p1)])) _
    refine XS.bipush X0.here hx rfl (hb hby d1_1) ?_
    show Steps p.tables e below (s₁.setTop (mkF m 3 #[.val (.int p1)] [(.int (-128 : Int32)), (.int p1)])) _
    refine XS.icmpYes X0.here hx rfl (pc0 := 3) (pc' := 23) rfl (hb hby d1_3) rfl (tlt hc3).1 (by decide) (by decide) ?_
    show Steps p.tables e below (s₁.setTop (mkF m 23 #[.val (.int p1)] [])) _
    refine st1 _ ?_
    show Steps p.tables e below (T1.setTop (mkF m 26 #[.val (.int p1)] [(.ref b1)])) _
    refine XS.dup X1.here hx rfl (hb hby d1_26) rfl rfl ?_
    show Steps p.tables e below (T1.setTop (mkF m 27 #[.val (.int p1)] [(.ref b1), (.ref b1)])) _
    refine XS.iloadN X1.here hx rfl (hb hby d1_27) rfl ?_
    show Steps p.tables e below (T1.setTop (mkF m 28 #[.val (.int p1)] [(.int p1), (.ref b1), (.ref b1)])) _
    refine st2.trans ?_
    show Steps p.tables e below (T2.setTop (mkF m 31 #[.val (.int p1)] [(.ref b1)])) _
    exact retOut X2 hx Bd.returns rfl (Or.inr (Or.inr (Or.inr (Or.inr ⟨rfl, rfl, rfl⟩)))) (hb hby d1_31) hr
  · show QV h0 n0 _ T2.heap _
    exact ⟨_, rfl, N2, ex⟩
theorem d1_6 : decode jdk_33_method_22_code 6 = .ok (.iload_n 0, 1) := by decide +kernel
theorem d1_7 : decode jdk_33_method_22_code 7 = .ok (.getstatic 191, 3) := by decide +kernel
theorem d1_10 : decode jdk_33_method_22_code 10 = .ok (.if_icmp .gt 13, 3) := by decide +kernel
set_option maxRecDepth 65536 in
set_option maxHeartbeats 40000000 in
theorem rm1_ft (l : Launch) (Z : State) (a0 : Array Value) (hw : ∀ d ∈ tables_1, d.before a0 Z = true) (ws : List Jvm.Cond) (p1 : Int32) (h0 : Heap) (n0 : Nat) (Z0 : n0 ≤ h0.size) (SHh : Sta Z h0 "java/lang/Integer$IntegerCache" "high" "I" (.int (127 : Int32))) (hc3 : ¬ (p1 < (-128 : Int32))) (hc10 : (127 : Int32) < p1) :
    MetFree l nm_1 (head1 (Jvm.Cond.code nm_1 jdk_33_method_22_code 1 (some (.object "java/lang/Integer")) :: ws) rr_3_1_1_38) (fun aa U => aa = #[(.int p1)] ∧ Z.Warmed39 U.vm ∧ U.heap = h0) (fun _ _ _ _ _ => True) (fun _ U o U' => ∃ v L, o = .returned v ∧ QV h0 n0 v U'.heap L ∧ FrameEnd U o U' L rr_3_1_1_38.cells rr_3_1_1_38.slots) := by
  refine MetFree.of_bodySF (plainFor_of_name pn_java_lang_Integer) hisR ?_
  intro p e s m args below meth c s₁ Bd hml0 hP hK
  obtain ⟨rfl, hZ, hh⟩ := hP
  have hx := Bd.exec
  have hby := Bd.bytes
  have hml : c.maxLocals = 1 := hml0
  have hown : s.vm.findClass "java/lang/Integer" = some m.cls := findClass_of_methodNamed Bd.named
  have hnm := (name_of_methodNamed Bd.named Bd.method).1
  have X0 : Stand p l e rr_3_1_1_38 s m #[(.int p1)] below meth c s₁ [] 0 0 := Stand.of_body Bd
  have e0 : s₁.heap = h0 := by rw [← hh, Bd.state]; rfl
  have N0 := Fr.nil n0
  have pre0 : ∀ t, Steps p.tables e below (s₁.setTop (mkF m 0 #[.val (.int p1)] [])) t → Steps p.tables e below (s₁.setTop (entryFrame m #[(.int p1)] 1)) t := fun t k => castTop (ef_1 m p1) k
  obtain ⟨T1, X1, e1, st1⟩ := getS2 X0 hx hZ hown (host := "") (Or.inl (ow hw 4 rfl)) Via.refl e0 SHh (g := (mkF m 7 #[.val (.int p1)] [(.int p1)])) rfl (hb hby d1_7)
  obtain ⟨T2, h2, X2, e2, E2, A2, D2, -, st2⟩ := newO X1 hx hZ hown (ow hw 41 rfl) (ow hw 42 rfl) (ow hw 2 rfl) e1 (g := (mkF m 23 #[.val (.int p1)] [])) rfl (hb hby d1_23) (by decide) (by decide)
  obtain ⟨b2, g_b2⟩ : ∃ z, z = h0.size := ⟨_, rfl⟩
  rw [← g_b2] at A2 D2 st2
  have g0_b2 : n0 ≤ b2 := Nat.le_trans Z0 (Nat.le_of_eq g_b2.symm)
  have sz_b2 : h0.size ≤ b2 := Nat.le_trans (Nat.le_refl _) (Nat.le_of_eq g_b2.symm)
  have F_value_b2 : Fld Z h2 b2 "java/lang/Integer" "value" "I" (.int (0 : Int32)) := D2 (Or.inr (ow hw 55 rfl)) (ty := .int) (by decide)
  obtain ⟨_, _, ⟨T3, L3, k3, n3⟩, -, X3, ⟨Lc3, hQ3, l3, y3, z3⟩, st3⟩ := X2.specialBack hx (y := nm_7) rfl hown (mvT hZ (ow hw 43 rfl)) (mvT hZ (ow hw 44 rfl)) (mvT hZ (ow hw 46 rfl)) (by decide) (backOf (W := 1) (rm7 l Z a0 hw [] b2 p1 h2 n0 (Nat.le_trans Z0 E2.1) g0_b2 A2 F_value_b2) hZ (ow hw 46 rfl) (ow hw 2 rfl) (by decide) (by decide)) (g := (mkF m 28 #[.val (.int p1)] [(.int p1), (.ref b2), (.ref b2)])) rfl (by rw [hml]; rfl) (Steps.refl _) (a := b2) (argsL := [(.int p1)]) (rest := [(.ref b2)]) (lenOf pd_6 rfl) rfl (by show 2 * 0 + _ ≤ _; exact Nat.le_of_eq rfl) (hb hby d1_28) (fun _ _ => ⟨rfl, e2, (by decide : 1 + 0 ≤ _), (by decide : 1 + 0 ≤ _)⟩)
  dsimp only [Pt.U, Pt.locs, Pt.cells, Pt.slots] at X3 l3 y3 z3 st3 hQ3
  subst l3 y3 z3
  obtain ⟨rfl, N3q, K3⟩ := hQ3
  have N3 := Fr.app N0 N3q
  have ex : Ext h0 T3.heap := ⟨(Nat.le_trans (Nat.le_trans (Nat.le_refl _) E2.1) K3.1), fun x cx hq => K3.2.1 x cx (E2.2 x cx hq) (ninS (Nat.ne_of_lt (Nat.lt_of_lt_of_le (Array.getElem?_eq_some_iff.mp hq).1 (Nat.le_of_eq g_b2.symm))) nin0)⟩
  obtain ⟨fs, hr, hrun, hended, hW, hsame⟩ := X3.leave (v := some (.ref b2)) (fun h => by rw [Bd.returns] at h; cases h)
  refine ⟨_, _, pre0 _ ?_, hrun, hended, _, _, rfl, ?_, ⟨_, rfl⟩, hW, hsame.mono (by decide) (by decide)⟩
  · show Steps p.tables e below (s₁.setTop (mkF m 0 #[.val (.int p1)] [])) _
    refine XS.iloadN X0.here hx rfl (hb hby d1_0) rfl ?_
    show Steps p.tables e below (s₁.setTop (mkF m 1 #[.val (.int p1)] [(.int p1)])) _
    refine XS.bipush X0.here hx rfl (hb hby d1_1) ?_
    show Steps p.tables e below (s₁.setTop (mkF m 3 #[.val (.int p1)] [(.int (-128 : Int32)), (.int p1)])) _
    refine XS.icmpNo X0.here hx rfl (hb hby d1_3) rfl (flt hc3).1 ?_
    show Steps p.tables e below (s₁.setTop (mkF m 6 #[.val (.int p1)] [])) _
    refine XS.iloadN X0.here hx rfl (hb hby d1_6) rfl ?_
    show Steps p.tables e below (s₁.setTop (mkF m 7 #[.val (.int p1)] [(.int p1)])) _
    refine st1 _ ?_
    show Steps p.tables e below (T1.setTop (mkF m 10 #[.val (.int p1)] [(.int (127 : Int32)), (.int p1)])) _
    refine XS.icmpYes X1.here hx rfl (pc0 := 10) (pc' := 23) rfl (hb hby d1_10) rfl (tlt hc10).2.2.1 (by decide) (by decide) ?_
    show Steps p.tables e below (T1.setTop (mkF m 23 #[.val (.int p1)] [])) _
    refine st2 _ ?_
    show Steps p.tables e below (T2.setTop (mkF m 26 #[.val (.int p1)] [(.ref b2)])) _
    refine XS.dup X2.here hx rfl (hb hby d1_26) rfl rfl ?_
    show Steps p.tables e below (T2.setTop (mkF m 27 #[.val (.int p1)] [(.ref b2), (.ref b2)])) _
    refine XS.iloadN X2.here hx rfl (hb hby d1_27) rfl ?_
    show Steps p.tables e below (T2.setTop (mkF m 28 #[.val (.int p1)] [(.int p1), (.ref b2), (.ref b2)])) _
    refine st3.trans ?_
    show Steps p.tables e below (T3.setTop (mkF m 31 #[.val (.int p1)] [(.ref b2)])) _
    exact retOut X3 hx Bd.returns rfl (Or.inr (Or.inr (Or.inr (Or.inr ⟨rfl, rfl, rfl⟩)))) (hb hby d1_31) hr
  · show QV h0 n0 _ T3.heap _
    exact ⟨_, rfl, N3, ex⟩
theorem d1_13 : decode jdk_33_method_22_code 13 = .ok (.getstatic 195, 3) := by decide +kernel
theorem d1_16 : decode jdk_33_method_22_code 16 = .ok (.iload_n 0, 1) := by decide +kernel
theorem d1_17 : decode jdk_33_method_22_code 17 = .ok (.sipush 128, 3) := by decide +kernel
theorem d1_20 : decode jdk_33_method_22_code 20 = .ok (.iadd, 1) := by decide +kernel
theorem d1_21 : decode jdk_33_method_22_code 21 = .ok (.aaload, 1) := by decide +kernel
theorem d1_22 : decode jdk_33_method_22_code 22 = .ok (.areturn, 1) := by decide +kernel
set_option maxRecDepth 65536 in
set_option maxHeartbeats 40000000 in
theorem rm1_ff (l : Launch) (Z : State) (a0 : Array Value) (hw : ∀ d ∈ tables_1, d.before a0 Z = true) (ws : List Jvm.Cond) (p1 : Int32) (b : Addr) (h0 : Heap) (n0 : Nat) (Z0 : n0 ≤ h0.size) (O0 : Old Z n0 h0) (LC : ICache Z b) (SHh : Sta Z h0 "java/lang/Integer$IntegerCache" "high" "I" (.int (127 : Int32))) (SC : Sta Z h0 "java/lang/Integer$IntegerCache" "cache" "[Ljava/lang/Integer;" (.ref b)) (hc3 : ¬ (p1 < (-128 : Int32))) (hc10 : ¬ ((127 : Int32) < p1)) :
    MetFree l nm_1 (head1 (Jvm.Cond.code nm_1 jdk_33_method_22_code 1 (some (.object "java/lang/Integer")) :: ws) rr_3_1_1_38) (fun aa U => aa = #[(.int p1)] ∧ Z.Warmed39 U.vm ∧ U.heap = h0) (fun _ _ _ _ _ => True) (fun _ U o U' => ∃ v L, o = .returned v ∧ QV h0 n0 v U'.heap L ∧ FrameEnd U o U' L rr_3_1_1_38.cells rr_3_1_1_38.slots) := by
  refine MetFree.of_bodySF (plainFor_of_name pn_java_lang_Integer) hisR ?_
  intro p e s m args below meth c s₁ Bd hml0 hP hK
  obtain ⟨rfl, hZ, hh⟩ := hP
  have hx := Bd.exec
  have hby := Bd.bytes
  have hml : c.maxLocals = 1 := hml0
  have hown : s.vm.findClass "java/lang/Integer" = some m.cls := findClass_of_methodNamed Bd.named
  have hnm := (name_of_methodNamed Bd.named Bd.method).1
  have X0 : Stand p l e rr_3_1_1_38 s m #[(.int p1)] below meth c s₁ [] 0 0 := Stand.of_body Bd
  have e0 : s₁.heap = h0 := by rw [← hh, Bd.state]; rfl
  have N0 := Fr.nil n0
  have pre0 : ∀ t, Steps p.tables e below (s₁.setTop (mkF m 0 #[.val (.int p1)] [])) t → Steps p.tables e below (s₁.setTop (entryFrame m #[(.int p1)] 1)) t := fun t k => castTop (ef_1 m p1) k
  obtain ⟨cl, Ar0, Sz, Hc⟩ := LC
  obtain ⟨i1, i3⟩ := own_idx p1 hc3 hc10
  obtain ⟨av, hat⟩ := Hc _ i3
  have Ar := Ar0.ext O0.2
  have hin : ¬ ((p1 + (128 : Int32)) < 0 ∨ cl.slots.size ≤ (p1 + (128 : Int32)).toNatClampNeg) := fun z => z.elim i1 (fun z => by rw [Sz] at z; omega)
  obtain ⟨T1, X1, e1, st1⟩ := getS2 X0 hx hZ hown (host := "") (Or.inl (ow hw 4 rfl)) Via.refl e0 SHh (g := (mkF m 7 #[.val (.int p1)] [(.int p1)])) rfl (hb hby d1_7)
  obtain ⟨T2, X2, e2, st2⟩ := getS2 X1 hx hZ hown (host := "") (Or.inl (ow hw 6 rfl)) Via.refl e1 SC (g := (mkF m 13 #[.val (.int p1)] [])) rfl (hb hby d1_13)
  obtain ⟨fs, hr, hrun, hended, hW, hsame⟩ := X2.leave (v := some (.ref av)) (fun h => by rw [Bd.returns] at h; cases h)
  refine ⟨_, _, pre0 _ ?_, hrun, hended, _, _, rfl, ?_, ⟨_, rfl⟩, hW, hsame.mono (by decide) (by decide)⟩
  · show Steps p.tables e below (s₁.setTop (mkF m 0 #[.val (.int p1)] [])) _
    refine XS.iloadN X0.here hx rfl (hb hby d1_0) rfl ?_
    show Steps p.tables e below (s₁.setTop (mkF m 1 #[.val (.int p1)] [(.int p1)])) _
    refine XS.bipush X0.here hx rfl (hb hby d1_1) ?_
    show Steps p.tables e below (s₁.setTop (mkF m 3 #[.val (.int p1)] [(.int (-128 : Int32)), (.int p1)])) _
    refine XS.icmpNo X0.here hx rfl (hb hby d1_3) rfl (flt hc3).1 ?_
    show Steps p.tables e below (s₁.setTop (mkF m 6 #[.val (.int p1)] [])) _
    refine XS.iloadN X0.here hx rfl (hb hby d1_6) rfl ?_
    show Steps p.tables e below (s₁.setTop (mkF m 7 #[.val (.int p1)] [(.int p1)])) _
    refine st1 _ ?_
    show Steps p.tables e below (T1.setTop (mkF m 10 #[.val (.int p1)] [(.int (127 : Int32)), (.int p1)])) _
    refine XS.icmpNo X1.here hx rfl (hb hby d1_10) rfl (flt hc10).2.2.1 ?_
    show Steps p.tables e below (T1.setTop (mkF m 13 #[.val (.int p1)] [])) _
    refine st2 _ ?_
    show Steps p.tables e below (T2.setTop (mkF m 16 #[.val (.int p1)] [(.ref b)])) _
    refine XS.iloadN X2.here hx rfl (hb hby d1_16) rfl ?_
    show Steps p.tables e below (T2.setTop (mkF m 17 #[.val (.int p1)] [(.int p1), (.ref b)])) _
    refine XS.sipush X2.here hx rfl (hb hby d1_17) ?_
    show Steps p.tables e below (T2.setTop (mkF m 20 #[.val (.int p1)] [(.int (128 : Int32)), (.int p1), (.ref b)])) _
    refine XS.iadd X2.here hx rfl (hb hby d1_20) rfl ?_
    show Steps p.tables e below (T2.setTop (mkF m 21 #[.val (.int p1)] [(.int (p1 + (128 : Int32))), (.ref b)])) _
    refine X2.aaload hx (j := (p1 + (128 : Int32))) (v := (.ref av)) (by rw [e2]; exact Ar.1) (State.isArrayOf_alike hZ.alike Ar.2.1) rfl Ar.2.2 hin hat (g := (mkF m 21 #[.val (.int p1)] [(.int (p1 + (128 : Int32))), (.ref b)])) rfl rfl (hb hby d1_21) _ ?_
    show Steps p.tables e below (T2.setTop (mkF m 22 #[.val (.int p1)] [(.ref av)])) _
    exact retOut X2 hx Bd.returns rfl (Or.inr (Or.inr (Or.inr (Or.inr ⟨rfl, rfl, rfl⟩)))) (hb hby d1_22) hr
  · show QV h0 n0 _ T2.heap _
    rw [e2]
    exact ⟨_, rfl, N0, ⟨Nat.le_refl _, fun _ _ q => q⟩⟩
theorem rm1 (l : Launch) (Z : State) (a0 : Array Value) (hw : ∀ d ∈ tables_1, d.before a0 Z = true) (ws : List Jvm.Cond) (p1 : Int32) (b : Addr) (h0 : Heap) (n0 : Nat) (Z0 : n0 ≤ h0.size) (O0 : Old Z n0 h0) (SHZ : Sta Z Z.heap "java/lang/Integer$IntegerCache" "high" "I" (.int (127 : Int32))) (SCZ : Sta Z Z.heap "java/lang/Integer$IntegerCache" "cache" "[Ljava/lang/Integer;" (.ref b)) (LC : ICache Z b) :
    MetFree l nm_1 (head1 (Jvm.Cond.code nm_1 jdk_33_method_22_code 1 (some (.object "java/lang/Integer")) :: ws) rr_3_1_1_38) (fun aa U => aa = #[(.int p1)] ∧ Z.Warmed39 U.vm ∧ U.heap = h0) (fun _ _ _ _ _ => True) (fun _ U o U' => ∃ v L, o = .returned v ∧ QV h0 n0 v U'.heap L ∧ FrameEnd U o U' L rr_3_1_1_38.cells rr_3_1_1_38.slots) := by
  by_cases c1 : p1 < (-128 : Int32)
  · exact rm1_t l Z a0 hw ws p1 h0 n0 Z0 (SHZ.ext O0.2) c1
  by_cases c2 : (127 : Int32) < p1
  · exact rm1_ft l Z a0 hw ws p1 h0 n0 Z0 (SHZ.ext O0.2) c1 c2
  · exact rm1_ff l Z a0 hw ws p1 b h0 n0 Z0 O0 LC (SHZ.ext O0.2) (SCZ.ext O0.2) c1 c2
theorem d2_0 : decode prog_62_method_1_code 0 = .ok (.aload_n 0, 1) := by decide +kernel
theorem d2_1 : decode prog_62_method_1_code 1 = .ok (.invokespecial 1, 3) := by decide +kernel
theorem d2_4 : decode prog_62_method_1_code 4 = .ok (.aload_n 0, 1) := by decide +kernel
theorem d2_5 : decode prog_62_method_1_code 5 = .ok (.aload_n 1, 1) := by decide +kernel
theorem d2_6 : decode prog_62_method_1_code 6 = .ok (.putfield 7, 3) := by decide +kernel
theorem d2_9 : decode prog_62_method_1_code 9 = .ok (.aload_n 0, 1) := by decide +kernel
theorem d2_10 : decode prog_62_method_1_code 10 = .ok (.aload_n 1, 1) := by decide +kernel
theorem d2_11 : decode prog_62_method_1_code 11 = .ok (.putfield 13, 3) := by decide +kernel
theorem d2_14 : decode prog_62_method_1_code 14 = .ok (.return_, 1) := by decide +kernel
theorem pn_com_example_framelatch_framelatch_Tree_Place : plainName "com/example/framelatch/framelatch/Tree$Place" = true := by first | (simp [plainName, overriddenIn]; done) | decide +kernel
theorem ef_2 (m : MethodId) (x0 : Addr) (x1 : Addr) : entryFrame m #[(.ref x0), (.ref x1)] 2 = mkF m 0 #[.val (.ref x0), .val (.ref x1)] [] := by first | (simp [entryFrame, mkF, argsToLocals, Value.category]; done) | rfl
abbrev nm_2 : MethodName := ⟨"com/example/framelatch/framelatch/Tree$Place", "<init>", "(Ljava/lang/Object;)V"⟩
set_option maxRecDepth 65536 in
set_option maxHeartbeats 40000000 in
theorem rm2 (l : Launch) (Z : State) (a0 : Array Value) (hw : ∀ d ∈ tables_1, d.before a0 Z = true) (ws : List Jvm.Cond) (a1 : Addr) (a2 : Addr) (h0 : Heap) (n0 : Nat) (Z0 : n0 ≤ h0.size) (g0_a1 : n0 ≤ a1) (PA : PlAt Z h0 a1 .null .null .null .null (0 : Int32)) :
    MetFree l nm_2 (head1 (Jvm.Cond.code nm_2 prog_62_method_1_code 2 none :: ws) rr_1_0_0_12) (fun aa U => aa = #[(.ref a1), (.ref a2)] ∧ Z.Warmed39 U.vm ∧ U.heap = h0) (fun _ _ _ _ _ => True) (fun _ U o U' => ∃ v L, o = .returned v ∧ QP1 Z a1 (.ref a2) (.ref a2) .null .null (0 : Int32) h0 n0 v U'.heap L ∧ FrameEnd U o U' L rr_1_0_0_12.cells rr_1_0_0_12.slots) := by
  refine MetFree.of_bodySF (plainFor_of_name pn_com_example_framelatch_framelatch_Tree_Place) hisR ?_
  intro p e s m args below meth c s₁ Bd hml0 hP hK
  obtain ⟨rfl, hZ, hh⟩ := hP
  have hx := Bd.exec
  have hby := Bd.bytes
  have hml : c.maxLocals = 2 := hml0
  have hown : s.vm.findClass "com/example/framelatch/framelatch/Tree$Place" = some m.cls := findClass_of_methodNamed Bd.named
  have hnm := (name_of_methodNamed Bd.named Bd.method).1
  have X0 : Stand p l e rr_1_0_0_12 s m #[(.ref a1), (.ref a2)] below meth c s₁ [] 0 0 := Stand.of_body Bd
  have e0 : s₁.heap = h0 := by rw [← hh, Bd.state]; rfl
  have N0 := Fr.nil n0
  have pre0 : ∀ t, Steps p.tables e below (s₁.setTop (mkF m 0 #[.val (.ref a1), .val (.ref a2)] [])) t → Steps p.tables e below (s₁.setTop (entryFrame m #[(.ref a1), (.ref a2)] 2)) t := fun t k => castTop (ef_2 m a1 a2) k
  obtain ⟨Epl1, Fapl1, Fbpl1, Fcpl1, Fdpl1, Fepl1⟩ := PA
  obtain ⟨T2, X2, e2, st2⟩ := initO X0 hx hZ hown (ow hw 13 rfl) (ow hw 14 rfl) (ow hw 15 rfl) e0 (g := (mkF m 1 #[.val (.ref a1), .val (.ref a2)] [(.ref a1)])) rfl (by rw [hml]; rfl) rfl (hb hby d2_1) (by decide) (W := 0) (by show 2 * 0 + _ ≤ _; exact Nat.le_of_eq rfl) (by decide)
  obtain ⟨T3, h3, X3, e3, W3, st3⟩ := putF X2 hx hZ hown (host := "") (Or.inl (ow hw 16 rfl)) Via.refl e2 Fapl1 Epl1 (Or.inr ⟨(ow hw 17 rfl), rfl, hnm⟩) (ow hw 8 rfl) (ty := (.object "java/lang/Object")) (by decide) rfl rfl (g := (mkF m 6 #[.val (.ref a1), .val (.ref a2)] [(.ref a2), (.ref a1)])) rfl rfl (hb hby d2_6)
  have Fw3 := Fapl1.same W3
  have N3 := Fr.snoc X3 N0 g0_a1
  have c5 := Fbpl1.other W3 (Or.inr (slot_ne (Or.inl (ow hw 19 rfl)) (Or.inr (ow hw 17 rfl)) (by decide) (t := (.object "java/lang/Object")) (t' := (.object "java/lang/Object")) (by decide) (by decide)))
  have c6 := Epl1.wr W3
  obtain ⟨T4, h4, X4, e4, W4, st4⟩ := putF X3 hx hZ hown (host := "") (Or.inl (ow hw 18 rfl)) Via.refl e3 c5 c6 (Or.inl (ow hw 19 rfl)) (ow hw 8 rfl) (ty := (.object "java/lang/Object")) (by decide) rfl rfl (g := (mkF m 11 #[.val (.ref a1), .val (.ref a2)] [(.ref a2), (.ref a1)])) rfl rfl (hb hby d2_11)
  have Fw4 := c5.same W4
  have N4 := Fr.snoc X4 N3 g0_a1
  have kp7 : Keep h0 h4 [a1] := (((Keep.refl h0 [a1]).wr W3 (Or.inl (List.mem_of_getElem? (i := 0) rfl))).wr W4 (Or.inl (List.mem_of_getElem? (i := 0) rfl)))
  have c8 := c6.wr W4
  have c9 := Fw3.other W4 (Or.inr (slot_ne (Or.inr (ow hw 17 rfl)) (Or.inl (ow hw 19 rfl)) (by decide) (t := (.object "java/lang/Object")) (t' := (.object "java/lang/Object")) (by decide) (by decide)))
  have c10 := Fcpl1.other W3 (Or.inr (slot_ne (Or.inl (ow hw 27 rfl)) (Or.inr (ow hw 17 rfl)) (by decide) (t := (.object "com/example/framelatch/framelatch/Tree$Place")) (t' := (.object "java/lang/Object")) (by decide) (by decide)))
  have c11 := c10.other W4 (Or.inr (slot_ne (Or.inl (ow hw 27 rfl)) (Or.inl (ow hw 19 rfl)) (by decide) (t := (.object "com/example/framelatch/framelatch/Tree$Place")) (t' := (.object "java/lang/Object")) (by decide) (by decide)))
  have c12 := Fdpl1.other W3 (Or.inr (slot_ne (Or.inl (ow hw 33 rfl)) (Or.inr (ow hw 17 rfl)) (by decide) (t := (.object "com/example/framelatch/framelatch/Tree$Place")) (t' := (.object "java/lang/Object")) (by decide) (by decide)))
  have c13 := c12.other W4 (Or.inr (slot_ne (Or.inl (ow hw 33 rfl)) (Or.inl (ow hw 19 rfl)) (by decide) (t := (.object "com/example/framelatch/framelatch/Tree$Place")) (t' := (.object "java/lang/Object")) (by decide) (by decide)))
  have c14 := Fepl1.other W3 (Or.inr (slot_ne (Or.inl (ow hw 35 rfl)) (Or.inr (ow hw 17 rfl)) (by decide) (t := .int) (t' := (.object "java/lang/Object")) (by decide) (by decide)))
  have c15 := c14.other W4 (Or.inr (slot_ne (Or.inl (ow hw 35 rfl)) (Or.inl (ow hw 19 rfl)) (by decide) (t := .int) (t' := (.object "java/lang/Object")) (by decide) (by decide)))
  obtain ⟨fs, hr, hrun, hended, hW, hsame⟩ := X4.leave (v := none) (fun _ => rfl)
  refine ⟨_, _, pre0 _ ?_, hrun, hended, _, _, rfl, ?_, ⟨_, rfl⟩, hW, hsame.mono (by decide) (by decide)⟩
  · show Steps p.tables e below (s₁.setTop (mkF m 0 #[.val (.ref a1), .val (.ref a2)] [])) _
    refine XS.aloadN X0.here hx rfl (hb hby d2_0) rfl rfl ?_
    show Steps p.tables e below (s₁.setTop (mkF m 1 #[.val (.ref a1), .val (.ref a2)] [(.ref a1)])) _
    refine st2 _ ?_
    show Steps p.tables e below (T2.setTop (mkF m 4 #[.val (.ref a1), .val (.ref a2)] [])) _
    refine XS.aloadN X2.here hx rfl (hb hby d2_4) rfl rfl ?_
    show Steps p.tables e below (T2.setTop (mkF m 5 #[.val (.ref a1), .val (.ref a2)] [(.ref a1)])) _
    refine XS.aloadN X2.here hx rfl (hb hby d2_5) rfl rfl ?_
    show Steps p.tables e below (T2.setTop (mkF m 6 #[.val (.ref a1), .val (.ref a2)] [(.ref a2), (.ref a1)])) _
    refine st3 _ ?_
    show Steps p.tables e below (T3.setTop (mkF m 9 #[.val (.ref a1), .val (.ref a2)] [])) _
    refine XS.aloadN X3.here hx rfl (hb hby d2_9) rfl rfl ?_
    show Steps p.tables e below (T3.setTop (mkF m 10 #[.val (.ref a1), .val (.ref a2)] [(.ref a1)])) _
    refine XS.aloadN X3.here hx rfl (hb hby d2_10) rfl rfl ?_
    show Steps p.tables e below (T3.setTop (mkF m 11 #[.val (.ref a1), .val (.ref a2)] [(.ref a2), (.ref a1)])) _
    refine st4 _ ?_
    show Steps p.tables e below (T4.setTop (mkF m 14 #[.val (.ref a1), .val (.ref a2)] [])) _
    exact X4.returnOut hx Bd.returns (hb hby d2_14) hr
  · show QP1 Z a1 (.ref a2) (.ref a2) .null .null (0 : Int32) h0 n0 _ T4.heap _
    rw [e4]
    exact ⟨rfl, N4, kp7, ⟨c8, c9, Fw4, c11, c13, c15⟩⟩
theorem d5_0 : decode prog_62_method_5_code 0 = .ok (.aload_n 0, 1) := by decide +kernel
theorem d5_1 : decode prog_62_method_5_code 1 = .ok (.astore_n 1, 1) := by decide +kernel
theorem d5_2 : decode prog_62_method_5_code 2 = .ok (.aload_n 1, 1) := by decide +kernel
theorem d5_3 : decode prog_62_method_5_code 3 = .ok (.getfield 28, 3) := by decide +kernel
theorem d5_6 : decode prog_62_method_5_code 6 = .ok (.ifnull 32, 3) := by decide +kernel
theorem d5_38 : decode prog_62_method_5_code 38 = .ok (.aload_n 1, 1) := by decide +kernel
theorem d5_39 : decode prog_62_method_5_code 39 = .ok (.areturn, 1) := by decide +kernel
theorem ef_5 (m : MethodId) (x0 : Addr) : entryFrame m #[(.ref x0)] 2 = mkF m 0 #[.val (.ref x0), .unset] [] := by first | (simp [entryFrame, mkF, argsToLocals, Value.category]; done) | rfl
abbrev nm_5 : MethodName := ⟨"com/example/framelatch/framelatch/Tree$Place", "representative", "()Lcom/example/framelatch/framelatch/Tree$Place;"⟩
set_option maxRecDepth 65536 in
set_option maxHeartbeats 40000000 in
theorem rm5_0 (l : Launch) (Z : State) (a0 : Array Value) (hw : ∀ d ∈ tables_1, d.before a0 Z = true) (ws : List Jvm.Cond) (a1 : Addr) (h0 : Heap) (n0 : Nat) (Z0 : n0 ≤ h0.size) (FL : Fld Z h0 a1 "com/example/framelatch/framelatch/Tree$Place" "link" "Lcom/example/framelatch/framelatch/Tree$Place;" .null) :
    MetFree l nm_5 (head1 (Jvm.Cond.code nm_5 prog_62_method_5_code 2 (some (.object "com/example/framelatch/framelatch/Tree$Place")) :: ws) rr0) (fun aa U => aa = #[(.ref a1)] ∧ Z.Warmed39 U.vm ∧ U.heap = h0) (fun _ _ _ _ _ => True) (fun _ U o U' => ∃ v L, o = .returned v ∧ QP (some (.ref a1)) h0 n0 v U'.heap L ∧ FrameEnd U o U' L rr0.cells rr0.slots) := by
  refine MetFree.of_bodySF (plainFor_of_name pn_com_example_framelatch_framelatch_Tree_Place) hisR ?_
  intro p e s m args below meth c s₁ Bd hml0 hP hK
  obtain ⟨rfl, hZ, hh⟩ := hP
  have hx := Bd.exec
  have hby := Bd.bytes
  have hml : c.maxLocals = 2 := hml0
  have hown : s.vm.findClass "com/example/framelatch/framelatch/Tree$Place" = some m.cls := findClass_of_methodNamed Bd.named
  have hnm := (name_of_methodNamed Bd.named Bd.method).1
  have X0 : Stand p l e rr0 s m #[(.ref a1)] below meth c s₁ [] 0 0 := Stand.of_body Bd
  have e0 : s₁.heap = h0 := by rw [← hh, Bd.state]; rfl
  have N0 := Fr.nil n0
  have pre0 : ∀ t, Steps p.tables e below (s₁.setTop (mkF m 0 #[.val (.ref a1), .unset] [])) t → Steps p.tables e below (s₁.setTop (entryFrame m #[(.ref a1)] 2)) t := fun t k => castTop (ef_5 m a1) k
  obtain ⟨T1, X1, e1, st1⟩ := getF X0 hx hZ hown (host := "") (Or.inl (ow hw 32 rfl)) Via.refl e0 FL (g := (mkF m 3 #[.val (.ref a1), .val (.ref a1)] [(.ref a1)])) rfl rfl (hb hby d5_3)
  obtain ⟨fs, hr, hrun, hended, hW, hsame⟩ := X1.leave (v := some (.ref a1)) (fun h => by rw [Bd.returns] at h; cases h)
  refine ⟨_, _, pre0 _ ?_, hrun, hended, _, _, rfl, ?_, ⟨_, rfl⟩, hW, hsame.mono (by decide) (by decide)⟩
  · show Steps p.tables e below (s₁.setTop (mkF m 0 #[.val (.ref a1), .unset] [])) _
    refine XS.aloadN X0.here hx rfl (hb hby d5_0) rfl rfl ?_
    show Steps p.tables e below (s₁.setTop (mkF m 1 #[.val (.ref a1), .unset] [(.ref a1)])) _
    refine XS.astoreN X0.here hx rfl (hb hby d5_1) rfl rfl (l' := #[.val (.ref a1), .val (.ref a1)]) rfl ?_
    show Steps p.tables e below (s₁.setTop (mkF m 2 #[.val (.ref a1), .val (.ref a1)] [])) _
    refine XS.aloadN X0.here hx rfl (hb hby d5_2) rfl rfl ?_
    show Steps p.tables e below (s₁.setTop (mkF m 3 #[.val (.ref a1), .val (.ref a1)] [(.ref a1)])) _
    refine st1 _ ?_
    show Steps p.tables e below (T1.setTop (mkF m 6 #[.val (.ref a1), .val (.ref a1)] [.null])) _
    refine XS.ifnullYes X1.here hx rfl (pc0 := 6) (pc' := 38) rfl (hb hby d5_6) rfl (by decide) (by decide) ?_
    show Steps p.tables e below (T1.setTop (mkF m 38 #[.val (.ref a1), .val (.ref a1)] [])) _
    refine XS.aloadN X1.here hx rfl (hb hby d5_38) rfl rfl ?_
    show Steps p.tables e below (T1.setTop (mkF m 39 #[.val (.ref a1), .val (.ref a1)] [(.ref a1)])) _
    exact retOut X1 hx Bd.returns rfl (Or.inr (Or.inr (Or.inr (Or.inr ⟨rfl, rfl, rfl⟩)))) (hb hby d5_39) hr
  · show QP (some (.ref a1)) h0 n0 _ T1.heap _
    rw [e1]
    exact ⟨rfl, N0, rfl⟩
theorem d5_9 : decode prog_62_method_5_code 9 = .ok (.aload_n 1, 1) := by decide +kernel
theorem d5_10 : decode prog_62_method_5_code 10 = .ok (.getfield 28, 3) := by decide +kernel
theorem d5_13 : decode prog_62_method_5_code 13 = .ok (.getfield 28, 3) := by decide +kernel
theorem d5_16 : decode prog_62_method_5_code 16 = .ok (.ifnull 14, 3) := by decide +kernel
theorem d5_30 : decode prog_62_method_5_code 30 = .ok (.aload_n 1, 1) := by decide +kernel
theorem d5_31 : decode prog_62_method_5_code 31 = .ok (.getfield 28, 3) := by decide +kernel
theorem d5_34 : decode prog_62_method_5_code 34 = .ok (.astore_n 1, 1) := by decide +kernel
theorem d5_35 : decode prog_62_method_5_code 35 = .ok (.goto (-33), 3) := by decide +kernel
set_option maxRecDepth 65536 in
set_option maxHeartbeats 40000000 in
theorem rm5_1 (l : Launch) (Z : State) (a0 : Array Value) (hw : ∀ d ∈ tables_1, d.before a0 Z = true) (ws : List Jvm.Cond) (a1 : Addr) (b : Addr) (h0 : Heap) (n0 : Nat) (Z0 : n0 ≤ h0.size) (FL : Fld Z h0 a1 "com/example/framelatch/framelatch/Tree$Place" "link" "Lcom/example/framelatch/framelatch/Tree$Place;" (.ref b)) (FL2 : Fld Z h0 b "com/example/framelatch/framelatch/Tree$Place" "link" "Lcom/example/framelatch/framelatch/Tree$Place;" .null) :
    MetFree l nm_5 (head1 (Jvm.Cond.code nm_5 prog_62_method_5_code 2 (some (.object "com/example/framelatch/framelatch/Tree$Place")) :: ws) rr0) (fun aa U => aa = #[(.ref a1)] ∧ Z.Warmed39 U.vm ∧ U.heap = h0) (fun _ _ _ _ _ => True) (fun _ U o U' => ∃ v L, o = .returned v ∧ QP (some (.ref b)) h0 n0 v U'.heap L ∧ FrameEnd U o U' L rr0.cells rr0.slots) := by
  refine MetFree.of_bodySF (plainFor_of_name pn_com_example_framelatch_framelatch_Tree_Place) hisR ?_
  intro p e s m args below meth c s₁ Bd hml0 hP hK
  obtain ⟨rfl, hZ, hh⟩ := hP
  have hx := Bd.exec
  have hby := Bd.bytes
  have hml : c.maxLocals = 2 := hml0
  have hown : s.vm.findClass "com/example/framelatch/framelatch/Tree$Place" = some m.cls := findClass_of_methodNamed Bd.named
  have hnm := (name_of_methodNamed Bd.named Bd.method).1
  have X0 : Stand p l e rr0 s m #[(.ref a1)] below meth c s₁ [] 0 0 := Stand.of_body Bd
  have e0 : s₁.heap = h0 := by rw [← hh, Bd.state]; rfl
  have N0 := Fr.nil n0
  have pre0 : ∀ t, Steps p.tables e below (s₁.setTop (mkF m 0 #[.val (.ref a1), .unset] [])) t → Steps p.tables e below (s₁.setTop (entryFrame m #[(.ref a1)] 2)) t := fun t k => castTop (ef_5 m a1) k
  obtain ⟨T1, X1, e1, st1⟩ := getF X0 hx hZ hown (host := "") (Or.inl (ow hw 32 rfl)) Via.refl e0 FL (g := (mkF m 3 #[.val (.ref a1), .val (.ref a1)] [(.ref a1)])) rfl rfl (hb hby d5_3)
  obtain ⟨T2, X2, e2, st2⟩ := getF X1 hx hZ hown (host := "") (Or.inl (ow hw 32 rfl)) Via.refl e1 FL (g := (mkF m 10 #[.val (.ref a1), .val (.ref a1)] [(.ref a1)])) rfl rfl (hb hby d5_10)
  obtain ⟨T3, X3, e3, st3⟩ := getF X2 hx hZ hown (host := "") (Or.inl (ow hw 32 rfl)) Via.refl e2 FL2 (g := (mkF m 13 #[.val (.ref a1), .val (.ref a1)] [(.ref b)])) rfl rfl (hb hby d5_13)
  obtain ⟨T4, X4, e4, st4⟩ := getF X3 hx hZ hown (host := "") (Or.inl (ow hw 32 rfl)) Via.refl e3 FL (g := (mkF m 31 #[.val (.ref a1), .val (.ref a1)] [(.ref a1)])) rfl rfl (hb hby d5_31)
  obtain ⟨T5, X5, e5, st5⟩ := getF X4 hx hZ hown (host := "") (Or.inl (ow hw 32 rfl)) Via.refl e4 FL2 (g := (mkF m 3 #[.val (.ref a1), .val (.ref b)] [(.ref b)])) rfl rfl (hb hby d5_3)
  obtain ⟨fs, hr, hrun, hended, hW, hsame⟩ := X5.leave (v := some (.ref b)) (fun h => by rw [Bd.returns] at h; cases h)
  refine ⟨_, _, pre0 _ ?_, hrun, hended, _, _, rfl, ?_, ⟨_, rfl⟩, hW, hsame.mono (by decide) (by decide)⟩
  · show Steps p.tables e below (s₁.setTop (mkF m 0 #[.val (.ref a1), .unset] [])) _
    refine XS.aloadN X0.here hx rfl (hb hby d5_0) rfl rfl ?_
    show Steps p.tables e below (s₁.setTop (mkF m 1 #[.val (.ref a1), .unset] [(.ref a1)])) _
    refine XS.astoreN X0.here hx rfl (hb hby d5_1) rfl rfl (l' := #[.val (.ref a1), .val (.ref a1)]) rfl ?_
    show Steps p.tables e below (s₁.setTop (mkF m 2 #[.val (.ref a1), .val (.ref a1)] [])) _
    refine XS.aloadN X0.here hx rfl (hb hby d5_2) rfl rfl ?_
    show Steps p.tables e below (s₁.setTop (mkF m 3 #[.val (.ref a1), .val (.ref a1)] [(.ref a1)])) _
    refine st1 _ ?_
    show Steps p.tables e below (T1.setTop (mkF m 6 #[.val (.ref a1), .val (.ref a1)] [(.ref b)])) _
    refine XS.ifnullNo X1.here hx rfl (hb hby d5_6) rfl ?_
    show Steps p.tables e below (T1.setTop (mkF m 9 #[.val (.ref a1), .val (.ref a1)] [])) _
    refine XS.aloadN X1.here hx rfl (hb hby d5_9) rfl rfl ?_
    show Steps p.tables e below (T1.setTop (mkF m 10 #[.val (.ref a1), .val (.ref a1)] [(.ref a1)])) _
    refine st2 _ ?_
    show Steps p.tables e below (T2.setTop (mkF m 13 #[.val (.ref a1), .val (.ref a1)] [(.ref b)])) _
    refine st3 _ ?_
    show Steps p.tables e below (T3.setTop (mkF m 16 #[.val (.ref a1), .val (.ref a1)] [.null])) _
    refine XS.ifnullYes X3.here hx rfl (pc0 := 16) (pc' := 30) rfl (hb hby d5_16) rfl (by decide) (by decide) ?_
    show Steps p.tables e below (T3.setTop (mkF m 30 #[.val (.ref a1), .val (.ref a1)] [])) _
    refine XS.aloadN X3.here hx rfl (hb hby d5_30) rfl rfl ?_
    show Steps p.tables e below (T3.setTop (mkF m 31 #[.val (.ref a1), .val (.ref a1)] [(.ref a1)])) _
    refine st4 _ ?_
    show Steps p.tables e below (T4.setTop (mkF m 34 #[.val (.ref a1), .val (.ref a1)] [(.ref b)])) _
    refine XS.astoreN X4.here hx rfl (hb hby d5_34) rfl rfl (l' := #[.val (.ref a1), .val (.ref b)]) rfl ?_
    show Steps p.tables e below (T4.setTop (mkF m 35 #[.val (.ref a1), .val (.ref b)] [])) _
    refine XS.goto X4.here hx rfl (pc0 := 35) (pc' := 2) rfl (hb hby d5_35) (by decide) (by decide) ?_
    show Steps p.tables e below (T4.setTop (mkF m 2 #[.val (.ref a1), .val (.ref b)] [])) _
    refine XS.aloadN X4.here hx rfl (hb hby d5_2) rfl rfl ?_
    show Steps p.tables e below (T4.setTop (mkF m 3 #[.val (.ref a1), .val (.ref b)] [(.ref b)])) _
    refine st5 _ ?_
    show Steps p.tables e below (T5.setTop (mkF m 6 #[.val (.ref a1), .val (.ref b)] [.null])) _
    refine XS.ifnullYes X5.here hx rfl (pc0 := 6) (pc' := 38) rfl (hb hby d5_6) rfl (by decide) (by decide) ?_
    show Steps p.tables e below (T5.setTop (mkF m 38 #[.val (.ref a1), .val (.ref b)] [])) _
    refine XS.aloadN X5.here hx rfl (hb hby d5_38) rfl rfl ?_
    show Steps p.tables e below (T5.setTop (mkF m 39 #[.val (.ref a1), .val (.ref b)] [(.ref b)])) _
    exact retOut X5 hx Bd.returns rfl (Or.inr (Or.inr (Or.inr (Or.inr ⟨rfl, rfl, rfl⟩)))) (hb hby d5_39) hr
  · show QP (some (.ref b)) h0 n0 _ T5.heap _
    rw [e5]
    exact ⟨rfl, N0, rfl⟩
theorem d6_0 : decode prog_62_method_2_code 0 = .ok (.aload_n 0, 1) := by decide +kernel
theorem d6_1 : decode prog_62_method_2_code 1 = .ok (.getfield 16, 3) := by decide +kernel
theorem d6_4 : decode prog_62_method_2_code 4 = .ok (.ifnonnull 7, 3) := by decide +kernel
theorem d6_7 : decode prog_62_method_2_code 7 = .ok (.aconst_null, 1) := by decide +kernel
theorem d6_8 : decode prog_62_method_2_code 8 = .ok (.goto 10, 3) := by decide +kernel
theorem d6_18 : decode prog_62_method_2_code 18 = .ok (.areturn, 1) := by decide +kernel
theorem ef_6 (m : MethodId) (x0 : Addr) : entryFrame m #[(.ref x0)] 1 = mkF m 0 #[.val (.ref x0)] [] := by first | (simp [entryFrame, mkF, argsToLocals, Value.category]; done) | rfl
abbrev nm_6 : MethodName := ⟨"com/example/framelatch/framelatch/Tree$Place", "parent", "()Ljava/lang/Object;"⟩
set_option maxRecDepth 65536 in
set_option maxHeartbeats 40000000 in
theorem rm6_N (l : Launch) (Z : State) (a0 : Array Value) (hw : ∀ d ∈ tables_1, d.before a0 Z = true) (ws : List Jvm.Cond) (a1 : Addr) (h0 : Heap) (n0 : Nat) (Z0 : n0 ≤ h0.size) (FP : Fld Z h0 a1 "com/example/framelatch/framelatch/Tree$Place" "parent" "Lcom/example/framelatch/framelatch/Tree$Place;" .null) :
    MetFree l nm_6 (head1 (Jvm.Cond.code nm_6 prog_62_method_2_code 1 (some (.object "java/lang/Object")) :: ws) rr0) (fun aa U => aa = #[(.ref a1)] ∧ Z.Warmed39 U.vm ∧ U.heap = h0) (fun _ _ _ _ _ => True) (fun _ U o U' => ∃ v L, o = .returned v ∧ QP (some .null) h0 n0 v U'.heap L ∧ FrameEnd U o U' L rr0.cells rr0.slots) := by
  refine MetFree.of_bodySF (plainFor_of_name pn_com_example_framelatch_framelatch_Tree_Place) hisR ?_
  intro p e s m args below meth c s₁ Bd hml0 hP hK
  obtain ⟨rfl, hZ, hh⟩ := hP
  have hx := Bd.exec
  have hby := Bd.bytes
  have hml : c.maxLocals = 1 := hml0
  have hown : s.vm.findClass "com/example/framelatch/framelatch/Tree$Place" = some m.cls := findClass_of_methodNamed Bd.named
  have hnm := (name_of_methodNamed Bd.named Bd.method).1
  have X0 : Stand p l e rr0 s m #[(.ref a1)] below meth c s₁ [] 0 0 := Stand.of_body Bd
  have e0 : s₁.heap = h0 := by rw [← hh, Bd.state]; rfl
  have N0 := Fr.nil n0
  have pre0 : ∀ t, Steps p.tables e below (s₁.setTop (mkF m 0 #[.val (.ref a1)] [])) t → Steps p.tables e below (s₁.setTop (entryFrame m #[(.ref a1)] 1)) t := fun t k => castTop (ef_6 m a1) k
  obtain ⟨T1, X1, e1, st1⟩ := getF X0 hx hZ hown (host := "") (Or.inl (ow hw 26 rfl)) Via.refl e0 FP (g := (mkF m 1 #[.val (.ref a1)] [(.ref a1)])) rfl rfl (hb hby d6_1)
  obtain ⟨fs, hr, hrun, hended, hW, hsame⟩ := X1.leave (v := some .null) (fun h => by rw [Bd.returns] at h; cases h)
  refine ⟨_, _, pre0 _ ?_, hrun, hended, _, _, rfl, ?_, ⟨_, rfl⟩, hW, hsame.mono (by decide) (by decide)⟩
  · show Steps p.tables e below (s₁.setTop (mkF m 0 #[.val (.ref a1)] [])) _
    refine XS.aloadN X0.here hx rfl (hb hby d6_0) rfl rfl ?_
    show Steps p.tables e below (s₁.setTop (mkF m 1 #[.val (.ref a1)] [(.ref a1)])) _
    refine st1 _ ?_
    show Steps p.tables e below (T1.setTop (mkF m 4 #[.val (.ref a1)] [.null])) _
    refine XS.ifnonnullNo X1.here hx rfl (hb hby d6_4) rfl ?_
    show Steps p.tables e below (T1.setTop (mkF m 7 #[.val (.ref a1)] [])) _
    refine XS.aconstNull X1.here hx rfl (hb hby d6_7) ?_
    show Steps p.tables e below (T1.setTop (mkF m 8 #[.val (.ref a1)] [.null])) _
    refine XS.goto X1.here hx rfl (pc0 := 8) (pc' := 18) rfl (hb hby d6_8) (by decide) (by decide) ?_
    show Steps p.tables e below (T1.setTop (mkF m 18 #[.val (.ref a1)] [.null])) _
    exact retOut X1 hx Bd.returns rfl (Or.inr (Or.inr (Or.inr (Or.inr ⟨rfl, rfl, rfl⟩)))) (hb hby d6_18) hr
  · show QP (some .null) h0 n0 _ T1.heap _
    rw [e1]
    exact ⟨rfl, N0, rfl⟩
theorem d6_11 : decode prog_62_method_2_code 11 = .ok (.aload_n 0, 1) := by decide +kernel
theorem d6_12 : decode prog_62_method_2_code 12 = .ok (.getfield 16, 3) := by decide +kernel
theorem d6_15 : decode prog_62_method_2_code 15 = .ok (.getfield 7, 3) := by decide +kernel
set_option maxRecDepth 65536 in
set_option maxHeartbeats 40000000 in
theorem rm6_R (l : Launch) (Z : State) (a0 : Array Value) (hw : ∀ d ∈ tables_1, d.before a0 Z = true) (ws : List Jvm.Cond) (a1 : Addr) (b : Addr) (x : Addr) (h0 : Heap) (n0 : Nat) (Z0 : n0 ≤ h0.size) (FP : Fld Z h0 a1 "com/example/framelatch/framelatch/Tree$Place" "parent" "Lcom/example/framelatch/framelatch/Tree$Place;" (.ref b)) (FN : Fld Z h0 b "com/example/framelatch/framelatch/Tree$Place" "node" "Ljava/lang/Object;" (.ref x)) :
    MetFree l nm_6 (head1 (Jvm.Cond.code nm_6 prog_62_method_2_code 1 (some (.object "java/lang/Object")) :: ws) rr0) (fun aa U => aa = #[(.ref a1)] ∧ Z.Warmed39 U.vm ∧ U.heap = h0) (fun _ _ _ _ _ => True) (fun _ U o U' => ∃ v L, o = .returned v ∧ QP (some (.ref x)) h0 n0 v U'.heap L ∧ FrameEnd U o U' L rr0.cells rr0.slots) := by
  refine MetFree.of_bodySF (plainFor_of_name pn_com_example_framelatch_framelatch_Tree_Place) hisR ?_
  intro p e s m args below meth c s₁ Bd hml0 hP hK
  obtain ⟨rfl, hZ, hh⟩ := hP
  have hx := Bd.exec
  have hby := Bd.bytes
  have hml : c.maxLocals = 1 := hml0
  have hown : s.vm.findClass "com/example/framelatch/framelatch/Tree$Place" = some m.cls := findClass_of_methodNamed Bd.named
  have hnm := (name_of_methodNamed Bd.named Bd.method).1
  have X0 : Stand p l e rr0 s m #[(.ref a1)] below meth c s₁ [] 0 0 := Stand.of_body Bd
  have e0 : s₁.heap = h0 := by rw [← hh, Bd.state]; rfl
  have N0 := Fr.nil n0
  have pre0 : ∀ t, Steps p.tables e below (s₁.setTop (mkF m 0 #[.val (.ref a1)] [])) t → Steps p.tables e below (s₁.setTop (entryFrame m #[(.ref a1)] 1)) t := fun t k => castTop (ef_6 m a1) k
  obtain ⟨T1, X1, e1, st1⟩ := getF X0 hx hZ hown (host := "") (Or.inl (ow hw 26 rfl)) Via.refl e0 FP (g := (mkF m 1 #[.val (.ref a1)] [(.ref a1)])) rfl rfl (hb hby d6_1)
  obtain ⟨T2, X2, e2, st2⟩ := getF X1 hx hZ hown (host := "") (Or.inl (ow hw 26 rfl)) Via.refl e1 FP (g := (mkF m 12 #[.val (.ref a1)] [(.ref a1)])) rfl rfl (hb hby d6_12)
  obtain ⟨T3, X3, e3, st3⟩ := getF X2 hx hZ hown (host := "") (Or.inl (ow hw 16 rfl)) Via.refl e2 FN (g := (mkF m 15 #[.val (.ref a1)] [(.ref b)])) rfl rfl (hb hby d6_15)
  obtain ⟨fs, hr, hrun, hended, hW, hsame⟩ := X3.leave (v := some (.ref x)) (fun h => by rw [Bd.returns] at h; cases h)
  refine ⟨_, _, pre0 _ ?_, hrun, hended, _, _, rfl, ?_, ⟨_, rfl⟩, hW, hsame.mono (by decide) (by decide)⟩
  · show Steps p.tables e below (s₁.setTop (mkF m 0 #[.val (.ref a1)] [])) _
    refine XS.aloadN X0.here hx rfl (hb hby d6_0) rfl rfl ?_
    show Steps p.tables e below (s₁.setTop (mkF m 1 #[.val (.ref a1)] [(.ref a1)])) _
    refine st1 _ ?_
    show Steps p.tables e below (T1.setTop (mkF m 4 #[.val (.ref a1)] [(.ref b)])) _
    refine XS.ifnonnullYes X1.here hx rfl (pc0 := 4) (pc' := 11) rfl (hb hby d6_4) rfl (by decide) (by decide) ?_
    show Steps p.tables e below (T1.setTop (mkF m 11 #[.val (.ref a1)] [])) _
    refine XS.aloadN X1.here hx rfl (hb hby d6_11) rfl rfl ?_
    show Steps p.tables e below (T1.setTop (mkF m 12 #[.val (.ref a1)] [(.ref a1)])) _
    refine st2 _ ?_
    show Steps p.tables e below (T2.setTop (mkF m 15 #[.val (.ref a1)] [(.ref b)])) _
    refine st3 _ ?_
    show Steps p.tables e below (T3.setTop (mkF m 18 #[.val (.ref a1)] [(.ref x)])) _
    exact retOut X3 hx Bd.returns rfl (Or.inr (Or.inr (Or.inr (Or.inr ⟨rfl, rfl, rfl⟩)))) (hb hby d6_18) hr
  · show QP (some (.ref x)) h0 n0 _ T3.heap _
    rw [e3]
    exact ⟨rfl, N0, rfl⟩
abbrev rr_1_0_0_13 : Room := { frames := 1, cells := 0, slots := 0, locals := 13 }
theorem d4_0 : decode prog_62_method_4_code 0 = .ok (.aload_n 0, 1) := by decide +kernel
theorem d4_1 : decode prog_62_method_4_code 1 = .ok (.aload_n 1, 1) := by decide +kernel
theorem d4_2 : decode prog_62_method_4_code 2 = .ok (.putfield 16, 3) := by decide +kernel
theorem d4_5 : decode prog_62_method_4_code 5 = .ok (.aload_n 1, 1) := by decide +kernel
theorem pd_4 : parseMethodDescriptor "()Lcom/example/framelatch/framelatch/Tree$Place;" = some ⟨[], some (.object "com/example/framelatch/framelatch/Tree$Place")⟩ := by decide +kernel
theorem d4_6 : decode prog_62_method_4_code 6 = .ok (.invokevirtual 20, 3) := by decide +kernel
theorem d4_9 : decode prog_62_method_4_code 9 = .ok (.astore_n 2, 1) := by decide +kernel
theorem d4_10 : decode prog_62_method_4_code 10 = .ok (.aload_n 0, 1) := by decide +kernel
theorem d4_11 : decode prog_62_method_4_code 11 = .ok (.invokevirtual 20, 3) := by decide +kernel
theorem d4_14 : decode prog_62_method_4_code 14 = .ok (.astore_n 3, 1) := by decide +kernel
theorem d4_15 : decode prog_62_method_4_code 15 = .ok (.aload_n 2, 1) := by decide +kernel
theorem d4_16 : decode prog_62_method_4_code 16 = .ok (.getfield 24, 3) := by decide +kernel
theorem d4_19 : decode prog_62_method_4_code 19 = .ok (.aload_n 3, 1) := by decide +kernel
theorem d4_20 : decode prog_62_method_4_code 20 = .ok (.getfield 24, 3) := by decide +kernel
theorem d4_23 : decode prog_62_method_4_code 23 = .ok (.if_icmp .ge 24, 3) := by decide +kernel
theorem d4_47 : decode prog_62_method_4_code 47 = .ok (.aload_n 3, 1) := by decide +kernel
theorem d4_48 : decode prog_62_method_4_code 48 = .ok (.aload_n 2, 1) := by decide +kernel
theorem d4_49 : decode prog_62_method_4_code 49 = .ok (.putfield 28, 3) := by decide +kernel
theorem d4_52 : decode prog_62_method_4_code 52 = .ok (.aload_n 3, 1) := by decide +kernel
theorem d4_53 : decode prog_62_method_4_code 53 = .ok (.aconst_null, 1) := by decide +kernel
theorem d4_54 : decode prog_62_method_4_code 54 = .ok (.putfield 13, 3) := by decide +kernel
theorem d4_57 : decode prog_62_method_4_code 57 = .ok (.aload_n 2, 1) := by decide +kernel
theorem d4_58 : decode prog_62_method_4_code 58 = .ok (.getfield 24, 3) := by decide +kernel
theorem d4_61 : decode prog_62_method_4_code 61 = .ok (.aload_n 3, 1) := by decide +kernel
theorem d4_62 : decode prog_62_method_4_code 62 = .ok (.getfield 24, 3) := by decide +kernel
theorem d4_65 : decode prog_62_method_4_code 65 = .ok (.if_icmp .ne 13, 3) := by decide +kernel
theorem d4_68 : decode prog_62_method_4_code 68 = .ok (.aload_n 2, 1) := by decide +kernel
theorem d4_69 : decode prog_62_method_4_code 69 = .ok (.dup, 1) := by decide +kernel
theorem d4_70 : decode prog_62_method_4_code 70 = .ok (.getfield 24, 3) := by decide +kernel
theorem d4_73 : decode prog_62_method_4_code 73 = .ok (.iconst 1, 1) := by decide +kernel
theorem d4_74 : decode prog_62_method_4_code 74 = .ok (.iadd, 1) := by decide +kernel
theorem d4_75 : decode prog_62_method_4_code 75 = .ok (.putfield 24, 3) := by decide +kernel
theorem d4_78 : decode prog_62_method_4_code 78 = .ok (.return_, 1) := by decide +kernel
theorem ef_4 (m : MethodId) (x0 : Addr) (x1 : Addr) : entryFrame m #[(.ref x0), (.ref x1)] 4 = mkF m 0 #[.val (.ref x0), .val (.ref x1), .unset, .unset] [] := by first | (simp [entryFrame, mkF, argsToLocals, Value.category]; done) | rfl
abbrev nm_4 : MethodName := ⟨"com/example/framelatch/framelatch/Tree$Place", "hangUnder", "(Lcom/example/framelatch/framelatch/Tree$Place;)V"⟩
set_option maxRecDepth 65536 in
set_option maxHeartbeats 40000000 in
theorem rm4_A (l : Launch) (Z : State) (a0 : Array Value) (hw : ∀ d ∈ tables_1, d.before a0 Z = true) (ws : List Jvm.Cond) (u : Addr) (w : Addr) (tn : Value) (tq : Value) (tp : Value) (tr : Int32) (on : Value) (ot : Addr) (op : Value) (orr : Int32) (h0 : Heap) (n0 : Nat) (Z0 : n0 ≤ h0.size) (ne_u_w : u ≠ w) (g0_u : n0 ≤ u) (g0_w : n0 ≤ w) (Pu : PlAt Z h0 u tn tq tp .null tr) (Pw : PlAt Z h0 w on (.ref ot) op .null orr) (hc23 : ¬ (orr < tr)) (hc65 : orr = tr) :
    MetFree l nm_4 (head1 (Jvm.Cond.code nm_4 prog_62_method_4_code 4 none :: ws) rr_1_0_0_13) (fun aa U => aa = #[(.ref u), (.ref w)] ∧ Z.Warmed39 U.vm ∧ U.heap = h0) (fun _ _ _ _ _ => True) (fun _ U o U' => ∃ v L, o = .returned v ∧ QP2 Z u tn .null (.ref w) (.ref w) tr w on (.ref ot) op .null (orr + (1 : Int32)) h0 n0 v U'.heap L ∧ FrameEnd U o U' L rr_1_0_0_13.cells rr_1_0_0_13.slots) := by
  refine MetFree.of_bodySF (plainFor_of_name pn_com_example_framelatch_framelatch_Tree_Place) hisR ?_
  intro p e s m args below meth c s₁ Bd hml0 hP hK
  obtain ⟨rfl, hZ, hh⟩ := hP
  have hx := Bd.exec
  have hby := Bd.bytes
  have hml : c.maxLocals = 4 := hml0
  have hown : s.vm.findClass "com/example/framelatch/framelatch/Tree$Place" = some m.cls := findClass_of_methodNamed Bd.named
  have hnm := (name_of_methodNamed Bd.named Bd.method).1
  have X0 : Stand p l e rr_1_0_0_13 s m #[(.ref u), (.ref w)] below meth c s₁ [] 0 0 := Stand.of_body Bd
  have e0 : s₁.heap = h0 := by rw [← hh, Bd.state]; rfl
  have N0 := Fr.nil n0
  have pre0 : ∀ t, Steps p.tables e below (s₁.setTop (mkF m 0 #[.val (.ref u), .val (.ref w), .unset, .unset] [])) t → Steps p.tables e below (s₁.setTop (entryFrame m #[(.ref u), (.ref w)] 4)) t := fun t k => castTop (ef_4 m u w) k
  obtain ⟨Epl1, Fapl1, Fbpl1, Fcpl1, Fdpl1, Fepl1⟩ := Pu
  obtain ⟨Epl2, Fapl2, Fbpl2, Fcpl2, Fdpl2, Fepl2⟩ := Pw
  obtain ⟨T3, h3, X3, e3, W3, st3⟩ := putF X0 hx hZ hown (host := "") (Or.inl (ow hw 26 rfl)) Via.refl e0 Fcpl1 Epl1 (Or.inl (ow hw 27 rfl)) (ow hw 8 rfl) (ty := (.object "com/example/framelatch/framelatch/Tree$Place")) (by decide) rfl rfl (g := (mkF m 2 #[.val (.ref u), .val (.ref w), .unset, .unset] [(.ref w), (.ref u)])) rfl rfl (hb hby d4_2)
  have Fw3 := Fcpl1.same W3
  have N3 := Fr.snoc X3 N0 g0_u
  have c4 := Fdpl2.other W3 (Or.inl (Ne.symm ne_u_w))
  have c6 := Epl2.wr W3
  obtain ⟨cq5, q5, q5'⟩ := c6.cell
  obtain ⟨_, _, ⟨T5, L5, k5, n5⟩, -, X5, ⟨Lc5, hQ5, l5, y5, z5⟩, st5⟩ := X3.privateBack hx (y := nm_5) hown (mvT hZ (ow hw 28 rfl)) (mvT hZ (ow hw 29 rfl)) (own_selP (mvT (args := #[]) hZ (ow hw 8 rfl)) (mvP hZ (ow hw 30 rfl) (args := #[])) (mvT hZ (ow hw 29 rfl)) (by decide)) (Cond.privateMethod_at (mvP hZ (ow hw 30 rfl) (args := #[]))) (mvT hZ (ow hw 31 rfl)) (by decide) (backOf (W := 0) (rm5_0 l Z a0 hw [] w h3 n0 (Nat.le_trans Z0 (Keep.of_wr W3).1) c4) hZ (ow hw 31 rfl) (ow hw 9 rfl) (by decide) (by decide)) (g := (mkF m 6 #[.val (.ref u), .val (.ref w), .unset, .unset] [(.ref w)])) rfl (by rw [hml]; rfl) (Steps.refl _) (a := w) (by rw [e3]; exact q5) q5' (argsL := []) (rest := []) (lenOf pd_4 rfl) rfl (by show 2 * 0 + _ ≤ _; exact Nat.le_of_eq rfl) (hb hby d4_6) (fun _ _ => ⟨rfl, e3, (by decide : 0 + 0 ≤ _), (by decide : 0 + 0 ≤ _)⟩)
  dsimp only [Pt.U, Pt.locs, Pt.cells, Pt.slots] at X5 l5 y5 z5 st5 hQ5
  subst l5 y5 z5
  obtain ⟨rfl, N5q, e5⟩ := hQ5
  have N5 := Fr.app N3 N5q
  have c7 := Fdpl1.other W3 (Or.inr (slot_ne (Or.inl (ow hw 33 rfl)) (Or.inl (ow hw 27 rfl)) (by decide) (t := (.object "com/example/framelatch/framelatch/Tree$Place")) (t' := (.object "com/example/framelatch/framelatch/Tree$Place")) (by decide) (by decide)))
  have c9 := Epl1.wr W3
  obtain ⟨cq8, q8, q8'⟩ := c9.cell
  obtain ⟨_, _, ⟨T8, L8, k8, n8⟩, -, X8, ⟨Lc8, hQ8, l8, y8, z8⟩, st8⟩ := X5.privateBack hx (y := nm_5) hown (mvT hZ (ow hw 28 rfl)) (mvT hZ (ow hw 29 rfl)) (own_selP (mvT (args := #[]) hZ (ow hw 8 rfl)) (mvP hZ (ow hw 30 rfl) (args := #[])) (mvT hZ (ow hw 29 rfl)) (by decide)) (Cond.privateMethod_at (mvP hZ (ow hw 30 rfl) (args := #[]))) (mvT hZ (ow hw 31 rfl)) (by decide) (backOf (W := 0) (rm5_0 l Z a0 hw [] u h3 n0 (Nat.le_trans Z0 (Keep.of_wr W3).1) c7) hZ (ow hw 31 rfl) (ow hw 9 rfl) (by decide) (by decide)) (g := (mkF m 11 #[.val (.ref u), .val (.ref w), .val (.ref w), .unset] [(.ref u)])) rfl (by rw [hml]; rfl) (Steps.refl _) (a := u) (by rw [e5]; exact q8) q8' (argsL := []) (rest := []) (lenOf pd_4 rfl) rfl (by show 2 * 0 + _ ≤ _; exact Nat.le_of_eq rfl) (hb hby d4_11) (fun _ _ => ⟨rfl, e5, (by decide : 0 + 0 ≤ _), (by decide : 0 + 0 ≤ _)⟩)
  dsimp only [Pt.U, Pt.locs, Pt.cells, Pt.slots] at X8 l8 y8 z8 st8 hQ8
  subst l8 y8 z8
  obtain ⟨rfl, N8q, e8⟩ := hQ8
  have N8 := Fr.app N5 N8q
  have c11 := Fepl2.other W3 (Or.inl (Ne.symm ne_u_w))
  obtain ⟨T10, X10, e10, st10⟩ := getF X8 hx hZ hown (host := "") (Or.inl (ow hw 34 rfl)) Via.refl e8 c11 (g := (mkF m 16 #[.val (.ref u), .val (.ref w), .val (.ref w), .val (.ref u)] [(.ref w)])) rfl rfl (hb hby d4_16)
  have c13 := Fepl1.other W3 (Or.inr (slot_ne (Or.inl (ow hw 35 rfl)) (Or.inl (ow hw 27 rfl)) (by decide) (t := .int) (t' := (.object "com/example/framelatch/framelatch/Tree$Place")) (by decide) (by decide)))
  obtain ⟨T12, X12, e12, st12⟩ := getF X10 hx hZ hown (host := "") (Or.inl (ow hw 34 rfl)) Via.refl e10 c13 (g := (mkF m 20 #[.val (.ref u), .val (.ref w), .val (.ref w), .val (.ref u)] [(.ref u), (.int orr)])) rfl rfl (hb hby d4_20)
  obtain ⟨T14, h14, X14, e14, W14, st14⟩ := putF X12 hx hZ hown (host := "") (Or.inl (ow hw 32 rfl)) Via.refl e12 c7 c9 (Or.inl (ow hw 33 rfl)) (ow hw 8 rfl) (ty := (.object "com/example/framelatch/framelatch/Tree$Place")) (by decide) rfl rfl (g := (mkF m 49 #[.val (.ref u), .val (.ref w), .val (.ref w), .val (.ref u)] [(.ref w), (.ref u)])) rfl rfl (hb hby d4_49)
  have Fw14 := c7.same W14
  have N14 := Fr.snoc X14 N8 g0_u
  have c16 := Fbpl1.other W3 (Or.inr (slot_ne (Or.inl (ow hw 19 rfl)) (Or.inl (ow hw 27 rfl)) (by decide) (t := (.object "java/lang/Object")) (t' := (.object "com/example/framelatch/framelatch/Tree$Place")) (by decide) (by decide)))
  have c17 := c16.other W14 (Or.inr (slot_ne (Or.inl (ow hw 19 rfl)) (Or.inl (ow hw 33 rfl)) (by decide) (t := (.object "java/lang/Object")) (t' := (.object "com/example/framelatch/framelatch/Tree$Place")) (by decide) (by decide)))
  have c18 := c9.wr W14
  obtain ⟨T15, h15, X15, e15, W15, st15⟩ := putF X14 hx hZ hown (host := "") (Or.inl (ow hw 18 rfl)) Via.refl e14 c17 c18 (Or.inl (ow hw 19 rfl)) (ow hw 8 rfl) (ty := (.object "java/lang/Object")) (by decide) rfl rfl (g := (mkF m 54 #[.val (.ref u), .val (.ref w), .val (.ref w), .val (.ref u)] [.null, (.ref u)])) rfl rfl (hb hby d4_54)
  have Fw15 := c17.same W15
  have N15 := Fr.snoc X15 N14 g0_u
  have c20 := c11.other W14 (Or.inl (Ne.symm ne_u_w))
  have c21 := c20.other W15 (Or.inl (Ne.symm ne_u_w))
  obtain ⟨T19, X19, e19, st19⟩ := getF X15 hx hZ hown (host := "") (Or.inl (ow hw 34 rfl)) Via.refl e15 c21 (g := (mkF m 58 #[.val (.ref u), .val (.ref w), .val (.ref w), .val (.ref u)] [(.ref w)])) rfl rfl (hb hby d4_58)
  have c23 := c13.other W14 (Or.inr (slot_ne (Or.inl (ow hw 35 rfl)) (Or.inl (ow hw 33 rfl)) (by decide) (t := .int) (t' := (.object "com/example/framelatch/framelatch/Tree$Place")) (by decide) (by decide)))
  have c24 := c23.other W15 (Or.inr (slot_ne (Or.inl (ow hw 35 rfl)) (Or.inl (ow hw 19 rfl)) (by decide) (t := .int) (t' := (.object "java/lang/Object")) (by decide) (by decide)))
  obtain ⟨T22, X22, e22, st22⟩ := getF X19 hx hZ hown (host := "") (Or.inl (ow hw 34 rfl)) Via.refl e19 c24 (g := (mkF m 62 #[.val (.ref u), .val (.ref w), .val (.ref w), .val (.ref u)] [(.ref u), (.int orr)])) rfl rfl (hb hby d4_62)
  obtain ⟨T25, X25, e25, st25⟩ := getF X22 hx hZ hown (host := "") (Or.inl (ow hw 34 rfl)) Via.refl e22 c21 (g := (mkF m 70 #[.val (.ref u), .val (.ref w), .val (.ref w), .val (.ref u)] [(.ref w), (.ref w)])) rfl rfl (hb hby d4_70)
  have c27 := c6.wr W14
  have c28 := c27.wr W15
  obtain ⟨T26, h26, X26, e26, W26, st26⟩ := putF X25 hx hZ hown (host := "") (Or.inl (ow hw 34 rfl)) Via.refl e25 c21 c28 (Or.inl (ow hw 35 rfl)) (ow hw 8 rfl) (ty := .int) (by decide) rfl rfl (g := (mkF m 75 #[.val (.ref u), .val (.ref w), .val (.ref w), .val (.ref u)] [(.int (orr + (1 : Int32))), (.ref w)])) rfl rfl (hb hby d4_75)
  have Fw26 := c21.same W26
  have N26 := Fr.snoc X26 N15 g0_w
  have kp29 : Keep h0 h26 [u, w] := (((((Keep.refl h0 [u, w]).wr W3 (Or.inl (List.mem_of_getElem? (i := 0) rfl))).wr W14 (Or.inl (List.mem_of_getElem? (i := 0) rfl))).wr W15 (Or.inl (List.mem_of_getElem? (i := 0) rfl))).wr W26 (Or.inl (List.mem_of_getElem? (i := 1) rfl)))
  have c30 := c18.wr W15
  have c31 := c30.wr W26
  have c32 := Fapl1.other W3 (Or.inr (slot_ne (Or.inr (ow hw 17 rfl)) (Or.inl (ow hw 27 rfl)) (by decide) (t := (.object "java/lang/Object")) (t' := (.object "com/example/framelatch/framelatch/Tree$Place")) (by decide) (by decide)))
  have c33 := c32.other W14 (Or.inr (slot_ne (Or.inr (ow hw 17 rfl)) (Or.inl (ow hw 33 rfl)) (by decide) (t := (.object "java/lang/Object")) (t' := (.object "com/example/framelatch/framelatch/Tree$Place")) (by decide) (by decide)))
  have c34 := c33.other W15 (Or.inr (slot_ne (Or.inr (ow hw 17 rfl)) (Or.inl (ow hw 19 rfl)) (by decide) (t := (.object "java/lang/Object")) (t' := (.object "java/lang/Object")) (by decide) (by decide)))
  have c35 := c34.other W26 (Or.inl ne_u_w)
  have c36 := Fw15.other W26 (Or.inl ne_u_w)
  have c37 := Fw3.other W14 (Or.inr (slot_ne (Or.inl (ow hw 27 rfl)) (Or.inl (ow hw 33 rfl)) (by decide) (t := (.object "com/example/framelatch/framelatch/Tree$Place")) (t' := (.object "com/example/framelatch/framelatch/Tree$Place")) (by decide) (by decide)))
  have c38 := c37.other W15 (Or.inr (slot_ne (Or.inl (ow hw 27 rfl)) (Or.inl (ow hw 19 rfl)) (by decide) (t := (.object "com/example/framelatch/framelatch/Tree$Place")) (t' := (.object "java/lang/Object")) (by decide) (by decide)))
  have c39 := c38.other W26 (Or.inl ne_u_w)
  have c40 := Fw14.other W15 (Or.inr (slot_ne (Or.inl (ow hw 33 rfl)) (Or.inl (ow hw 19 rfl)) (by decide) (t := (.object "com/example/framelatch/framelatch/Tree$Place")) (t' := (.object "java/lang/Object")) (by decide) (by decide)))
  have c41 := c40.other W26 (Or.inl ne_u_w)
  have c42 := c24.other W26 (Or.inl ne_u_w)
  have c43 := c28.wr W26
  have c44 := Fapl2.other W3 (Or.inl (Ne.symm ne_u_w))
  have c45 := c44.other W14 (Or.inl (Ne.symm ne_u_w))
  have c46 := c45.other W15 (Or.inl (Ne.symm ne_u_w))
  have c47 := c46.other W26 (Or.inr (slot_ne (Or.inr (ow hw 17 rfl)) (Or.inl (ow hw 35 rfl)) (by decide) (t := (.object "java/lang/Object")) (t' := .int) (by decide) (by decide)))
  have c48 := Fbpl2.other W3 (Or.inl (Ne.symm ne_u_w))
  have c49 := c48.other W14 (Or.inl (Ne.symm ne_u_w))
  have c50 := c49.other W15 (Or.inl (Ne.symm ne_u_w))
  have c51 := c50.other W26 (Or.inr (slot_ne (Or.inl (ow hw 19 rfl)) (Or.inl (ow hw 35 rfl)) (by decide) (t := (.object "java/lang/Object")) (t' := .int) (by decide) (by decide)))
  have c52 := Fcpl2.other W3 (Or.inl (Ne.symm ne_u_w))
  have c53 := c52.other W14 (Or.inl (Ne.symm ne_u_w))
  have c54 := c53.other W15 (Or.inl (Ne.symm ne_u_w))
  have c55 := c54.other W26 (Or.inr (slot_ne (Or.inl (ow hw 27 rfl)) (Or.inl (ow hw 35 rfl)) (by decide) (t := (.object "com/example/framelatch/framelatch/Tree$Place")) (t' := .int) (by decide) (by decide)))
  have c56 := c4.other W14 (Or.inl (Ne.symm ne_u_w))
  have c57 := c56.other W15 (Or.inl (Ne.symm ne_u_w))
  have c58 := c57.other W26 (Or.inr (slot_ne (Or.inl (ow hw 33 rfl)) (Or.inl (ow hw 35 rfl)) (by decide) (t := (.object "com/example/framelatch/framelatch/Tree$Place")) (t' := .int) (by decide) (by decide)))
  obtain ⟨fs, hr, hrun, hended, hW, hsame⟩ := X26.leave (v := none) (fun _ => rfl)
  refine ⟨_, _, pre0 _ ?_, hrun, hended, _, _, rfl, ?_, ⟨_, rfl⟩, hW, hsame.mono (by decide) (by decide)⟩
  · show Steps p.tables e below (s₁.setTop (mkF m 0 #[.val (.ref u), .val (.ref w), .unset, .unset] [])) _
    refine XS.aloadN X0.here hx rfl (hb hby d4_0) rfl rfl ?_
    show Steps p.tables e below (s₁.setTop (mkF m 1 #[.val (.ref u), .val (.ref w), .unset, .unset] [(.ref u)])) _
    refine XS.aloadN X0.here hx rfl (hb hby d4_1) rfl rfl ?_
    show Steps p.tables e below (s₁.setTop (mkF m 2 #[.val (.ref u), .val (.ref w), .unset, .unset] [(.ref w), (.ref u)])) _
    refine st3 _ ?_
    show Steps p.tables e below (T3.setTop (mkF m 5 #[.val (.ref u), .val (.ref w), .unset, .unset] [])) _
    refine XS.aloadN X3.here hx rfl (hb hby d4_5) rfl rfl ?_
    show Steps p.tables e below (T3.setTop (mkF m 6 #[.val (.ref u), .val (.ref w), .unset, .unset] [(.ref w)])) _
    refine st5.trans ?_
    show Steps p.tables e below (T5.setTop (mkF m 9 #[.val (.ref u), .val (.ref w), .unset, .unset] [(.ref w)])) _
    refine XS.astoreN X5.here hx rfl (hb hby d4_9) rfl rfl (l' := #[.val (.ref u), .val (.ref w), .val (.ref w), .unset]) rfl ?_
    show Steps p.tables e below (T5.setTop (mkF m 10 #[.val (.ref u), .val (.ref w), .val (.ref w), .unset] [])) _
    refine XS.aloadN X5.here hx rfl (hb hby d4_10) rfl rfl ?_
    show Steps p.tables e below (T5.setTop (mkF m 11 #[.val (.ref u), .val (.ref w), .val (.ref w), .unset] [(.ref u)])) _
    refine st8.trans ?_
    show Steps p.tables e below (T8.setTop (mkF m 14 #[.val (.ref u), .val (.ref w), .val (.ref w), .unset] [(.ref u)])) _
    refine XS.astoreN X8.here hx rfl (hb hby d4_14) rfl rfl (l' := #[.val (.ref u), .val (.ref w), .val (.ref w), .val (.ref u)]) rfl ?_
    show Steps p.tables e below (T8.setTop (mkF m 15 #[.val (.ref u), .val (.ref w), .val (.ref w), .val (.ref u)] [])) _
    refine XS.aloadN X8.here hx rfl (hb hby d4_15) rfl rfl ?_
    show Steps p.tables e below (T8.setTop (mkF m 16 #[.val (.ref u), .val (.ref w), .val (.ref w), .val (.ref u)] [(.ref w)])) _
    refine st10 _ ?_
    show Steps p.tables e below (T10.setTop (mkF m 19 #[.val (.ref u), .val (.ref w), .val (.ref w), .val (.ref u)] [(.int orr)])) _
    refine XS.aloadN X10.here hx rfl (hb hby d4_19) rfl rfl ?_
    show Steps p.tables e below (T10.setTop (mkF m 20 #[.val (.ref u), .val (.ref w), .val (.ref w), .val (.ref u)] [(.ref u), (.int orr)])) _
    refine st12 _ ?_
    show Steps p.tables e below (T12.setTop (mkF m 23 #[.val (.ref u), .val (.ref w), .val (.ref w), .val (.ref u)] [(.int tr), (.int orr)])) _
    refine XS.icmpYes X12.here hx rfl (pc0 := 23) (pc' := 47) rfl (hb hby d4_23) rfl (flt hc23).2.1 (by decide) (by decide) ?_
    show Steps p.tables e below (T12.setTop (mkF m 47 #[.val (.ref u), .val (.ref w), .val (.ref w), .val (.ref u)] [])) _
    refine XS.aloadN X12.here hx rfl (hb hby d4_47) rfl rfl ?_
    show Steps p.tables e below (T12.setTop (mkF m 48 #[.val (.ref u), .val (.ref w), .val (.ref w), .val (.ref u)] [(.ref u)])) _
    refine XS.aloadN X12.here hx rfl (hb hby d4_48) rfl rfl ?_
    show Steps p.tables e below (T12.setTop (mkF m 49 #[.val (.ref u), .val (.ref w), .val (.ref w), .val (.ref u)] [(.ref w), (.ref u)])) _
    refine st14 _ ?_
    show Steps p.tables e below (T14.setTop (mkF m 52 #[.val (.ref u), .val (.ref w), .val (.ref w), .val (.ref u)] [])) _
    refine XS.aloadN X14.here hx rfl (hb hby d4_52) rfl rfl ?_
    show Steps p.tables e below (T14.setTop (mkF m 53 #[.val (.ref u), .val (.ref w), .val (.ref w), .val (.ref u)] [(.ref u)])) _
    refine XS.aconstNull X14.here hx rfl (hb hby d4_53) ?_
    show Steps p.tables e below (T14.setTop (mkF m 54 #[.val (.ref u), .val (.ref w), .val (.ref w), .val (.ref u)] [.null, (.ref u)])) _
    refine st15 _ ?_
    show Steps p.tables e below (T15.setTop (mkF m 57 #[.val (.ref u), .val (.ref w), .val (.ref w), .val (.ref u)] [])) _
    refine XS.aloadN X15.here hx rfl (hb hby d4_57) rfl rfl ?_
    show Steps p.tables e below (T15.setTop (mkF m 58 #[.val (.ref u), .val (.ref w), .val (.ref w), .val (.ref u)] [(.ref w)])) _
    refine st19 _ ?_
    show Steps p.tables e below (T19.setTop (mkF m 61 #[.val (.ref u), .val (.ref w), .val (.ref w), .val (.ref u)] [(.int orr)])) _
    refine XS.aloadN X19.here hx rfl (hb hby d4_61) rfl rfl ?_
    show Steps p.tables e below (T19.setTop (mkF m 62 #[.val (.ref u), .val (.ref w), .val (.ref w), .val (.ref u)] [(.ref u), (.int orr)])) _
    refine st22 _ ?_
    show Steps p.tables e below (T22.setTop (mkF m 65 #[.val (.ref u), .val (.ref w), .val (.ref w), .val (.ref u)] [(.int tr), (.int orr)])) _
    refine XS.icmpNo X22.here hx rfl (hb hby d4_65) rfl (teq hc65).2 ?_
    show Steps p.tables e below (T22.setTop (mkF m 68 #[.val (.ref u), .val (.ref w), .val (.ref w), .val (.ref u)] [])) _
    refine XS.aloadN X22.here hx rfl (hb hby d4_68) rfl rfl ?_
    show Steps p.tables e below (T22.setTop (mkF m 69 #[.val (.ref u), .val (.ref w), .val (.ref w), .val (.ref u)] [(.ref w)])) _
    refine XS.dup X22.here hx rfl (hb hby d4_69) rfl rfl ?_
    show Steps p.tables e below (T22.setTop (mkF m 70 #[.val (.ref u), .val (.ref w), .val (.ref w), .val (.ref u)] [(.ref w), (.ref w)])) _
    refine st25 _ ?_
    show Steps p.tables e below (T25.setTop (mkF m 73 #[.val (.ref u), .val (.ref w), .val (.ref w), .val (.ref u)] [(.int orr), (.ref w)])) _
    refine XS.iconst X25.here hx rfl (hb hby d4_73) ?_
    show Steps p.tables e below (T25.setTop (mkF m 74 #[.val (.ref u), .val (.ref w), .val (.ref w), .val (.ref u)] [(.int (1 : Int32)), (.int orr), (.ref w)])) _
    refine XS.iadd X25.here hx rfl (hb hby d4_74) rfl ?_
    show Steps p.tables e below (T25.setTop (mkF m 75 #[.val (.ref u), .val (.ref w), .val (.ref w), .val (.ref u)] [(.int (orr + (1 : Int32))), (.ref w)])) _
    refine st26 _ ?_
    show Steps p.tables e below (T26.setTop (mkF m 78 #[.val (.ref u), .val (.ref w), .val (.ref w), .val (.ref u)] [])) _
    exact X26.returnOut hx Bd.returns (hb hby d4_78) hr
  · show QP2 Z u tn .null (.ref w) (.ref w) tr w on (.ref ot) op .null (orr + (1 : Int32)) h0 n0 _ T26.heap _
    rw [e26]
    exact ⟨rfl, N26, kp29, ⟨c31, c35, c36, c39, c41, c42⟩, ⟨c43, c47, c51, c55, c58, Fw26⟩⟩
set_option maxRecDepth 65536 in
set_option maxHeartbeats 40000000 in
theorem rm4_B (l : Launch) (Z : State) (a0 : Array Value) (hw : ∀ d ∈ tables_1, d.before a0 Z = true) (ws : List Jvm.Cond) (u : Addr) (w : Addr) (y : Addr) (tn : Value) (tq : Value) (tp : Value) (tr : Int32) (on : Value) (oq : Value) (op : Value) (orr : Int32) (an : Value) (aq : Value) (ap : Value) (ar : Int32) (h0 : Heap) (n0 : Nat) (Z0 : n0 ≤ h0.size) (ne_u_w : u ≠ w) (ne_u_y : u ≠ y) (g0_u : n0 ≤ u) (Pu : PlAt Z h0 u tn tq tp .null tr) (Pw : PlAt Z h0 w on oq op (.ref y) orr) (Py : PlAt Z h0 y an aq ap .null ar) (hc23 : ¬ (ar < tr)) (hc65 : ¬ (ar = tr)) :
    MetFree l nm_4 (head1 (Jvm.Cond.code nm_4 prog_62_method_4_code 4 none :: ws) rr_1_0_0_13) (fun aa U => aa = #[(.ref u), (.ref w)] ∧ Z.Warmed39 U.vm ∧ U.heap = h0) (fun _ _ _ _ _ => True) (fun _ U o U' => ∃ v L, o = .returned v ∧ QP1 Z u tn .null (.ref w) (.ref y) tr h0 n0 v U'.heap L ∧ FrameEnd U o U' L rr_1_0_0_13.cells rr_1_0_0_13.slots) := by
  refine MetFree.of_bodySF (plainFor_of_name pn_com_example_framelatch_framelatch_Tree_Place) hisR ?_
  intro p e s m args below meth c s₁ Bd hml0 hP hK
  obtain ⟨rfl, hZ, hh⟩ := hP
  have hx := Bd.exec
  have hby := Bd.bytes
  have hml : c.maxLocals = 4 := hml0
  have hown : s.vm.findClass "com/example/framelatch/framelatch/Tree$Place" = some m.cls := findClass_of_methodNamed Bd.named
  have hnm := (name_of_methodNamed Bd.named Bd.method).1
  have X0 : Stand p l e rr_1_0_0_13 s m #[(.ref u), (.ref w)] below meth c s₁ [] 0 0 := Stand.of_body Bd
  have e0 : s₁.heap = h0 := by rw [← hh, Bd.state]; rfl
  have N0 := Fr.nil n0
  have pre0 : ∀ t, Steps p.tables e below (s₁.setTop (mkF m 0 #[.val (.ref u), .val (.ref w), .unset, .unset] [])) t → Steps p.tables e below (s₁.setTop (entryFrame m #[(.ref u), (.ref w)] 4)) t := fun t k => castTop (ef_4 m u w) k
  obtain ⟨Epl1, Fapl1, Fbpl1, Fcpl1, Fdpl1, Fepl1⟩ := Pu
  obtain ⟨Epl2, Fapl2, Fbpl2, Fcpl2, Fdpl2, Fepl2⟩ := Pw
  obtain ⟨Epl3, Fapl3, Fbpl3, Fcpl3, Fdpl3, Fepl3⟩ := Py
  obtain ⟨T4, h4, X4, e4, W4, st4⟩ := putF X0 hx hZ hown (host := "") (Or.inl (ow hw 26 rfl)) Via.refl e0 Fcpl1 Epl1 (Or.inl (ow hw 27 rfl)) (ow hw 8 rfl) (ty := (.object "com/example/framelatch/framelatch/Tree$Place")) (by decide) rfl rfl (g := (mkF m 2 #[.val (.ref u), .val (.ref w), .unset, .unset] [(.ref w), (.ref u)])) rfl rfl (hb hby d4_2)
  have Fw4 := Fcpl1.same W4
  have N4 := Fr.snoc X4 N0 g0_u
  have c5 := Fdpl2.other W4 (Or.inl (Ne.symm ne_u_w))
  have c6 := Fdpl3.other W4 (Or.inl (Ne.symm ne_u_y))
  have c8 := Epl2.wr W4
  obtain ⟨cq7, q7, q7'⟩ := c8.cell
  obtain ⟨_, _, ⟨T7, L7, k7, n7⟩, -, X7, ⟨Lc7, hQ7, l7, y7, z7⟩, st7⟩ := X4.privateBack hx (y := nm_5) hown (mvT hZ (ow hw 28 rfl)) (mvT hZ (ow hw 29 rfl)) (own_selP (mvT (args := #[]) hZ (ow hw 8 rfl)) (mvP hZ (ow hw 30 rfl) (args := #[])) (mvT hZ (ow hw 29 rfl)) (by decide)) (Cond.privateMethod_at (mvP hZ (ow hw 30 rfl) (args := #[]))) (mvT hZ (ow hw 31 rfl)) (by decide) (backOf (W := 0) (rm5_1 l Z a0 hw [] w y h4 n0 (Nat.le_trans Z0 (Keep.of_wr W4).1) c5 c6) hZ (ow hw 31 rfl) (ow hw 9 rfl) (by decide) (by decide)) (g := (mkF m 6 #[.val (.ref u), .val (.ref w), .unset, .unset] [(.ref w)])) rfl (by rw [hml]; rfl) (Steps.refl _) (a := w) (by rw [e4]; exact q7) q7' (argsL := []) (rest := []) (lenOf pd_4 rfl) rfl (by show 2 * 0 + _ ≤ _; exact Nat.le_of_eq rfl) (hb hby d4_6) (fun _ _ => ⟨rfl, e4, (by decide : 0 + 0 ≤ _), (by decide : 0 + 0 ≤ _)⟩)
  dsimp only [Pt.U, Pt.locs, Pt.cells, Pt.slots] at X7 l7 y7 z7 st7 hQ7
  subst l7 y7 z7
  obtain ⟨rfl, N7q, e7⟩ := hQ7
  have N7 := Fr.app N4 N7q
  have c9 := Fdpl1.other W4 (Or.inr (slot_ne (Or.inl (ow hw 33 rfl)) (Or.inl (ow hw 27 rfl)) (by decide) (t := (.object "com/example/framelatch/framelatch/Tree$Place")) (t' := (.object "com/example/framelatch/framelatch/Tree$Place")) (by decide) (by decide)))
  have c11 := Epl1.wr W4
  obtain ⟨cq10, q10, q10'⟩ := c11.cell
  obtain ⟨_, _, ⟨T10, L10, k10, n10⟩, -, X10, ⟨Lc10, hQ10, l10, y10, z10⟩, st10⟩ := X7.privateBack hx (y := nm_5) hown (mvT hZ (ow hw 28 rfl)) (mvT hZ (ow hw 29 rfl)) (own_selP (mvT (args := #[]) hZ (ow hw 8 rfl)) (mvP hZ (ow hw 30 rfl) (args := #[])) (mvT hZ (ow hw 29 rfl)) (by decide)) (Cond.privateMethod_at (mvP hZ (ow hw 30 rfl) (args := #[]))) (mvT hZ (ow hw 31 rfl)) (by decide) (backOf (W := 0) (rm5_0 l Z a0 hw [] u h4 n0 (Nat.le_trans Z0 (Keep.of_wr W4).1) c9) hZ (ow hw 31 rfl) (ow hw 9 rfl) (by decide) (by decide)) (g := (mkF m 11 #[.val (.ref u), .val (.ref w), .val (.ref y), .unset] [(.ref u)])) rfl (by rw [hml]; rfl) (Steps.refl _) (a := u) (by rw [e7]; exact q10) q10' (argsL := []) (rest := []) (lenOf pd_4 rfl) rfl (by show 2 * 0 + _ ≤ _; exact Nat.le_of_eq rfl) (hb hby d4_11) (fun _ _ => ⟨rfl, e7, (by decide : 0 + 0 ≤ _), (by decide : 0 + 0 ≤ _)⟩)
  dsimp only [Pt.U, Pt.locs, Pt.cells, Pt.slots] at X10 l10 y10 z10 st10 hQ10
  subst l10 y10 z10
  obtain ⟨rfl, N10q, e10⟩ := hQ10
  have N10 := Fr.app N7 N10q
  have c13 := Fepl3.other W4 (Or.inl (Ne.symm ne_u_y))
  obtain ⟨T12, X12, e12, st12⟩ := getF X10 hx hZ hown (host := "") (Or.inl (ow hw 34 rfl)) Via.refl e10 c13 (g := (mkF m 16 #[.val (.ref u), .val (.ref w), .val (.ref y), .val (.ref u)] [(.ref y)])) rfl rfl (hb hby d4_16)
  have c15 := Fepl1.other W4 (Or.inr (slot_ne (Or.inl (ow hw 35 rfl)) (Or.inl (ow hw 27 rfl)) (by decide) (t := .int) (t' := (.object "com/example/framelatch/framelatch/Tree$Place")) (by decide) (by decide)))
  obtain ⟨T14, X14, e14, st14⟩ := getF X12 hx hZ hown (host := "") (Or.inl (ow hw 34 rfl)) Via.refl e12 c15 (g := (mkF m 20 #[.val (.ref u), .val (.ref w), .val (.ref y), .val (.ref u)] [(.ref u), (.int ar)])) rfl rfl (hb hby d4_20)
  obtain ⟨T16, h16, X16, e16, W16, st16⟩ := putF X14 hx hZ hown (host := "") (Or.inl (ow hw 32 rfl)) Via.refl e14 c9 c11 (Or.inl (ow hw 33 rfl)) (ow hw 8 rfl) (ty := (.object "com/example/framelatch/framelatch/Tree$Place")) (by decide) rfl rfl (g := (mkF m 49 #[.val (.ref u), .val (.ref w), .val (.ref y), .val (.ref u)] [(.ref y), (.ref u)])) rfl rfl (hb hby d4_49)
  have Fw16 := c9.same W16
  have N16 := Fr.snoc X16 N10 g0_u
  have c18 := Fbpl1.other W4 (Or.inr (slot_ne (Or.inl (ow hw 19 rfl)) (Or.inl (ow hw 27 rfl)) (by decide) (t := (.object "java/lang/Object")) (t' := (.object "com/example/framelatch/framelatch/Tree$Place")) (by decide) (by decide)))
  have c19 := c18.other W16 (Or.inr (slot_ne (Or.inl (ow hw 19 rfl)) (Or.inl (ow hw 33 rfl)) (by decide) (t := (.object "java/lang/Object")) (t' := (.object "com/example/framelatch/framelatch/Tree$Place")) (by decide) (by decide)))
  have c20 := c11.wr W16
  obtain ⟨T17, h17, X17, e17, W17, st17⟩ := putF X16 hx hZ hown (host := "") (Or.inl (ow hw 18 rfl)) Via.refl e16 c19 c20 (Or.inl (ow hw 19 rfl)) (ow hw 8 rfl) (ty := (.object "java/lang/Object")) (by decide) rfl rfl (g := (mkF m 54 #[.val (.ref u), .val (.ref w), .val (.ref y), .val (.ref u)] [.null, (.ref u)])) rfl rfl (hb hby d4_54)
  have Fw17 := c19.same W17
  have N17 := Fr.snoc X17 N16 g0_u
  have c22 := c13.other W16 (Or.inl (Ne.symm ne_u_y))
  have c23 := c22.other W17 (Or.inl (Ne.symm ne_u_y))
  obtain ⟨T21, X21, e21, st21⟩ := getF X17 hx hZ hown (host := "") (Or.inl (ow hw 34 rfl)) Via.refl e17 c23 (g := (mkF m 58 #[.val (.ref u), .val (.ref w), .val (.ref y), .val (.ref u)] [(.ref y)])) rfl rfl (hb hby d4_58)
  have c25 := c15.other W16 (Or.inr (slot_ne (Or.inl (ow hw 35 rfl)) (Or.inl (ow hw 33 rfl)) (by decide) (t := .int) (t' := (.object "com/example/framelatch/framelatch/Tree$Place")) (by decide) (by decide)))
  have c26 := c25.other W17 (Or.inr (slot_ne (Or.inl (ow hw 35 rfl)) (Or.inl (ow hw 19 rfl)) (by decide) (t := .int) (t' := (.object "java/lang/Object")) (by decide) (by decide)))
  obtain ⟨T24, X24, e24, st24⟩ := getF X21 hx hZ hown (host := "") (Or.inl (ow hw 34 rfl)) Via.refl e21 c26 (g := (mkF m 62 #[.val (.ref u), .val (.ref w), .val (.ref y), .val (.ref u)] [(.ref u), (.int ar)])) rfl rfl (hb hby d4_62)
  have kp27 : Keep h0 h17 [u] := ((((Keep.refl h0 [u]).wr W4 (Or.inl (List.mem_of_getElem? (i := 0) rfl))).wr W16 (Or.inl (List.mem_of_getElem? (i := 0) rfl))).wr W17 (Or.inl (List.mem_of_getElem? (i := 0) rfl)))
  have c28 := c20.wr W17
  have c29 := Fapl1.other W4 (Or.inr (slot_ne (Or.inr (ow hw 17 rfl)) (Or.inl (ow hw 27 rfl)) (by decide) (t := (.object "java/lang/Object")) (t' := (.object "com/example/framelatch/framelatch/Tree$Place")) (by decide) (by decide)))
  have c30 := c29.other W16 (Or.inr (slot_ne (Or.inr (ow hw 17 rfl)) (Or.inl (ow hw 33 rfl)) (by decide) (t := (.object "java/lang/Object")) (t' := (.object "com/example/framelatch/framelatch/Tree$Place")) (by decide) (by decide)))
  have c31 := c30.other W17 (Or.inr (slot_ne (Or.inr (ow hw 17 rfl)) (Or.inl (ow hw 19 rfl)) (by decide) (t := (.object "java/lang/Object")) (t' := (.object "java/lang/Object")) (by decide) (by decide)))
  have c32 := Fw4.other W16 (Or.inr (slot_ne (Or.inl (ow hw 27 rfl)) (Or.inl (ow hw 33 rfl)) (by decide) (t := (.object "com/example/framelatch/framelatch/Tree$Place")) (t' := (.object "com/example/framelatch/framelatch/Tree$Place")) (by decide) (by decide)))
  have c33 := c32.other W17 (Or.inr (slot_ne (Or.inl (ow hw 27 rfl)) (Or.inl (ow hw 19 rfl)) (by decide) (t := (.object "com/example/framelatch/framelatch/Tree$Place")) (t' := (.object "java/lang/Object")) (by decide) (by decide)))
  have c34 := Fw16.other W17 (Or.inr (slot_ne (Or.inl (ow hw 33 rfl)) (Or.inl (ow hw 19 rfl)) (by decide) (t := (.object "com/example/framelatch/framelatch/Tree$Place")) (t' := (.object "java/lang/Object")) (by decide) (by decide)))
  obtain ⟨fs, hr, hrun, hended, hW, hsame⟩ := X24.leave (v := none) (fun _ => rfl)
  refine ⟨_, _, pre0 _ ?_, hrun, hended, _, _, rfl, ?_, ⟨_, rfl⟩, hW, hsame.mono (by decide) (by decide)⟩
  · show Steps p.tables e below (s₁.setTop (mkF m 0 #[.val (.ref u), .val (.ref w), .unset, .unset] [])) _
    refine XS.aloadN X0.here hx rfl (hb hby d4_0) rfl rfl ?_
    show Steps p.tables e below (s₁.setTop (mkF m 1 #[.val (.ref u), .val (.ref w), .unset, .unset] [(.ref u)])) _
    refine XS.aloadN X0.here hx rfl (hb hby d4_1) rfl rfl ?_
    show Steps p.tables e below (s₁.setTop (mkF m 2 #[.val (.ref u), .val (.ref w), .unset, .unset] [(.ref w), (.ref u)])) _
    refine st4 _ ?_
    show Steps p.tables e below (T4.setTop (mkF m 5 #[.val (.ref u), .val (.ref w), .unset, .unset] [])) _
    refine XS.aloadN X4.here hx rfl (hb hby d4_5) rfl rfl ?_
    show Steps p.tables e below (T4.setTop (mkF m 6 #[.val (.ref u), .val (.ref w), .unset, .unset] [(.ref w)])) _
    refine st7.trans ?_
    show Steps p.tables e below (T7.setTop (mkF m 9 #[.val (.ref u), .val (.ref w), .unset, .unset] [(.ref y)])) _
    refine XS.astoreN X7.here hx rfl (hb hby d4_9) rfl rfl (l' := #[.val (.ref u), .val (.ref w), .val (.ref y), .unset]) rfl ?_
    show Steps p.tables e below (T7.setTop (mkF m 10 #[.val (.ref u), .val (.ref w), .val (.ref y), .unset] [])) _
    refine XS.aloadN X7.here hx rfl (hb hby d4_10) rfl rfl ?_
    show Steps p.tables e below (T7.setTop (mkF m 11 #[.val (.ref u), .val (.ref w), .val (.ref y), .unset] [(.ref u)])) _
    refine st10.trans ?_
    show Steps p.tables e below (T10.setTop (mkF m 14 #[.val (.ref u), .val (.ref w), .val (.ref y), .unset] [(.ref u)])) _
    refine XS.astoreN X10.here hx rfl (hb hby d4_14) rfl rfl (l' := #[.val (.ref u), .val (.ref w), .val (.ref y), .val (.ref u)]) rfl ?_
    show Steps p.tables e below (T10.setTop (mkF m 15 #[.val (.ref u), .val (.ref w), .val (.ref y), .val (.ref u)] [])) _
    refine XS.aloadN X10.here hx rfl (hb hby d4_15) rfl rfl ?_
    show Steps p.tables e below (T10.setTop (mkF m 16 #[.val (.ref u), .val (.ref w), .val (.ref y), .val (.ref u)] [(.ref y)])) _
    refine st12 _ ?_
    show Steps p.tables e below (T12.setTop (mkF m 19 #[.val (.ref u), .val (.ref w), .val (.ref y), .val (.ref u)] [(.int ar)])) _
    refine XS.aloadN X12.here hx rfl (hb hby d4_19) rfl rfl ?_
    show Steps p.tables e below (T12.setTop (mkF m 20 #[.val (.ref u), .val (.ref w), .val (.ref y), .val (.ref u)] [(.ref u), (.int ar)])) _
    refine st14 _ ?_
    show Steps p.tables e below (T14.setTop (mkF m 23 #[.val (.ref u), .val (.ref w), .val (.ref y), .val (.ref u)] [(.int tr), (.int ar)])) _
    refine XS.icmpYes X14.here hx rfl (pc0 := 23) (pc' := 47) rfl (hb hby d4_23) rfl (flt hc23).2.1 (by decide) (by decide) ?_
    show Steps p.tables e below (T14.setTop (mkF m 47 #[.val (.ref u), .val (.ref w), .val (.ref y), .val (.ref u)] [])) _
    refine XS.aloadN X14.here hx rfl (hb hby d4_47) rfl rfl ?_
    show Steps p.tables e below (T14.setTop (mkF m 48 #[.val (.ref u), .val (.ref w), .val (.ref y), .val (.ref u)] [(.ref u)])) _
    refine XS.aloadN X14.here hx rfl (hb hby d4_48) rfl rfl ?_
    show Steps p.tables e below (T14.setTop (mkF m 49 #[.val (.ref u), .val (.ref w), .val (.ref y), .val (.ref u)] [(.ref y), (.ref u)])) _
    refine st16 _ ?_
    show Steps p.tables e below (T16.setTop (mkF m 52 #[.val (.ref u), .val (.ref w), .val (.ref y), .val (.ref u)] [])) _
    refine XS.aloadN X16.here hx rfl (hb hby d4_52) rfl rfl ?_
    show Steps p.tables e below (T16.setTop (mkF m 53 #[.val (.ref u), .val (.ref w), .val (.ref y), .val (.ref u)] [(.ref u)])) _
    refine XS.aconstNull X16.here hx rfl (hb hby d4_53) ?_
    show Steps p.tables e below (T16.setTop (mkF m 54 #[.val (.ref u), .val (.ref w), .val (.ref y), .val (.ref u)] [.null, (.ref u)])) _
    refine st17 _ ?_
    show Steps p.tables e below (T17.setTop (mkF m 57 #[.val (.ref u), .val (.ref w), .val (.ref y), .val (.ref u)] [])) _
    refine XS.aloadN X17.here hx rfl (hb hby d4_57) rfl rfl ?_
    show Steps p.tables e below (T17.setTop (mkF m 58 #[.val (.ref u), .val (.ref w), .val (.ref y), .val (.ref u)] [(.ref y)])) _
    refine st21 _ ?_
    show Steps p.tables e below (T21.setTop (mkF m 61 #[.val (.ref u), .val (.ref w), .val (.ref y), .val (.ref u)] [(.int ar)])) _
    refine XS.aloadN X21.here hx rfl (hb hby d4_61) rfl rfl ?_
    show Steps p.tables e below (T21.setTop (mkF m 62 #[.val (.ref u), .val (.ref w), .val (.ref y), .val (.ref u)] [(.ref u), (.int ar)])) _
    refine st24 _ ?_
    show Steps p.tables e below (T24.setTop (mkF m 65 #[.val (.ref u), .val (.ref w), .val (.ref y), .val (.ref u)] [(.int tr), (.int ar)])) _
    refine XS.icmpYes X24.here hx rfl (pc0 := 65) (pc' := 78) rfl (hb hby d4_65) rfl (feq hc65).2 (by decide) (by decide) ?_
    show Steps p.tables e below (T24.setTop (mkF m 78 #[.val (.ref u), .val (.ref w), .val (.ref y), .val (.ref u)] [])) _
    exact X24.returnOut hx Bd.returns (hb hby d4_78) hr
  · show QP1 Z u tn .null (.ref w) (.ref y) tr h0 n0 _ T24.heap _
    rw [e24]
    exact ⟨rfl, N17, kp27, ⟨c28, c31, Fw17, c33, c34, c26⟩⟩
theorem d4_26 : decode prog_62_method_4_code 26 = .ok (.aload_n 2, 1) := by decide +kernel
theorem d4_27 : decode prog_62_method_4_code 27 = .ok (.aload_n 3, 1) := by decide +kernel
theorem d4_28 : decode prog_62_method_4_code 28 = .ok (.putfield 28, 3) := by decide +kernel
theorem d4_31 : decode prog_62_method_4_code 31 = .ok (.aload_n 3, 1) := by decide +kernel
theorem d4_32 : decode prog_62_method_4_code 32 = .ok (.aload_n 2, 1) := by decide +kernel
theorem d4_33 : decode prog_62_method_4_code 33 = .ok (.getfield 13, 3) := by decide +kernel
theorem d4_36 : decode prog_62_method_4_code 36 = .ok (.putfield 13, 3) := by decide +kernel
theorem d4_39 : decode prog_62_method_4_code 39 = .ok (.aload_n 2, 1) := by decide +kernel
theorem d4_40 : decode prog_62_method_4_code 40 = .ok (.aconst_null, 1) := by decide +kernel
theorem d4_41 : decode prog_62_method_4_code 41 = .ok (.putfield 13, 3) := by decide +kernel
theorem d4_44 : decode prog_62_method_4_code 44 = .ok (.goto 34, 3) := by decide +kernel
set_option maxRecDepth 65536 in
set_option maxHeartbeats 40000000 in
theorem rm4_C (l : Launch) (Z : State) (a0 : Array Value) (hw : ∀ d ∈ tables_1, d.before a0 Z = true) (ws : List Jvm.Cond) (u : Addr) (w : Addr) (tn : Value) (tq : Value) (tp : Value) (tr : Int32) (on : Value) (ot : Addr) (op : Value) (orr : Int32) (h0 : Heap) (n0 : Nat) (Z0 : n0 ≤ h0.size) (ne_u_w : u ≠ w) (g0_u : n0 ≤ u) (g0_w : n0 ≤ w) (Pu : PlAt Z h0 u tn tq tp .null tr) (Pw : PlAt Z h0 w on (.ref ot) op .null orr) (hc23 : orr < tr) :
    MetFree l nm_4 (head1 (Jvm.Cond.code nm_4 prog_62_method_4_code 4 none :: ws) rr_1_0_0_13) (fun aa U => aa = #[(.ref u), (.ref w)] ∧ Z.Warmed39 U.vm ∧ U.heap = h0) (fun _ _ _ _ _ => True) (fun _ U o U' => ∃ v L, o = .returned v ∧ QP2 Z u tn (.ref ot) (.ref w) .null tr w on .null op (.ref u) orr h0 n0 v U'.heap L ∧ FrameEnd U o U' L rr_1_0_0_13.cells rr_1_0_0_13.slots) := by
  refine MetFree.of_bodySF (plainFor_of_name pn_com_example_framelatch_framelatch_Tree_Place) hisR ?_
  intro p e s m args below meth c s₁ Bd hml0 hP hK
  obtain ⟨rfl, hZ, hh⟩ := hP
  have hx := Bd.exec
  have hby := Bd.bytes
  have hml : c.maxLocals = 4 := hml0
  have hown : s.vm.findClass "com/example/framelatch/framelatch/Tree$Place" = some m.cls := findClass_of_methodNamed Bd.named
  have hnm := (name_of_methodNamed Bd.named Bd.method).1
  have X0 : Stand p l e rr_1_0_0_13 s m #[(.ref u), (.ref w)] below meth c s₁ [] 0 0 := Stand.of_body Bd
  have e0 : s₁.heap = h0 := by rw [← hh, Bd.state]; rfl
  have N0 := Fr.nil n0
  have pre0 : ∀ t, Steps p.tables e below (s₁.setTop (mkF m 0 #[.val (.ref u), .val (.ref w), .unset, .unset] [])) t → Steps p.tables e below (s₁.setTop (entryFrame m #[(.ref u), (.ref w)] 4)) t := fun t k => castTop (ef_4 m u w) k
  obtain ⟨Epl1, Fapl1, Fbpl1, Fcpl1, Fdpl1, Fepl1⟩ := Pu
  obtain ⟨Epl2, Fapl2, Fbpl2, Fcpl2, Fdpl2, Fepl2⟩ := Pw
  obtain ⟨T3, h3, X3, e3, W3, st3⟩ := putF X0 hx hZ hown (host := "") (Or.inl (ow hw 26 rfl)) Via.refl e0 Fcpl1 Epl1 (Or.inl (ow hw 27 rfl)) (ow hw 8 rfl) (ty := (.object "com/example/framelatch/framelatch/Tree$Place")) (by decide) rfl rfl (g := (mkF m 2 #[.val (.ref u), .val (.ref w), .unset, .unset] [(.ref w), (.ref u)])) rfl rfl (hb hby d4_2)
  have Fw3 := Fcpl1.same W3
  have N3 := Fr.snoc X3 N0 g0_u
  have c4 := Fdpl2.other W3 (Or.inl (Ne.symm ne_u_w))
  have c6 := Epl2.wr W3
  obtain ⟨cq5, q5, q5'⟩ := c6.cell
  obtain ⟨_, _, ⟨T5, L5, k5, n5⟩, -, X5, ⟨Lc5, hQ5, l5, y5, z5⟩, st5⟩ := X3.privateBack hx (y := nm_5) hown (mvT hZ (ow hw 28 rfl)) (mvT hZ (ow hw 29 rfl)) (own_selP (mvT (args := #[]) hZ (ow hw 8 rfl)) (mvP hZ (ow hw 30 rfl) (args := #[])) (mvT hZ (ow hw 29 rfl)) (by decide)) (Cond.privateMethod_at (mvP hZ (ow hw 30 rfl) (args := #[]))) (mvT hZ (ow hw 31 rfl)) (by decide) (backOf (W := 0) (rm5_0 l Z a0 hw [] w h3 n0 (Nat.le_trans Z0 (Keep.of_wr W3).1) c4) hZ (ow hw 31 rfl) (ow hw 9 rfl) (by decide) (by decide)) (g := (mkF m 6 #[.val (.ref u), .val (.ref w), .unset, .unset] [(.ref w)])) rfl (by rw [hml]; rfl) (Steps.refl _) (a := w) (by rw [e3]; exact q5) q5' (argsL := []) (rest := []) (lenOf pd_4 rfl) rfl (by show 2 * 0 + _ ≤ _; exact Nat.le_of_eq rfl) (hb hby d4_6) (fun _ _ => ⟨rfl, e3, (by decide : 0 + 0 ≤ _), (by decide : 0 + 0 ≤ _)⟩)
  dsimp only [Pt.U, Pt.locs, Pt.cells, Pt.slots] at X5 l5 y5 z5 st5 hQ5
  subst l5 y5 z5
  obtain ⟨rfl, N5q, e5⟩ := hQ5
  have N5 := Fr.app N3 N5q
  have c7 := Fdpl1.other W3 (Or.inr (slot_ne (Or.inl (ow hw 33 rfl)) (Or.inl (ow hw 27 rfl)) (by decide) (t := (.object "com/example/framelatch/framelatch/Tree$Place")) (t' := (.object "com/example/framelatch/framelatch/Tree$Place")) (by decide) (by decide)))
  have c9 := Epl1.wr W3
  obtain ⟨cq8, q8, q8'⟩ := c9.cell
  obtain ⟨_, _, ⟨T8, L8, k8, n8⟩, -, X8, ⟨Lc8, hQ8, l8, y8, z8⟩, st8⟩ := X5.privateBack hx (y := nm_5) hown (mvT hZ (ow hw 28 rfl)) (mvT hZ (ow hw 29 rfl)) (own_selP (mvT (args := #[]) hZ (ow hw 8 rfl)) (mvP hZ (ow hw 30 rfl) (args := #[])) (mvT hZ (ow hw 29 rfl)) (by decide)) (Cond.privateMethod_at (mvP hZ (ow hw 30 rfl) (args := #[]))) (mvT hZ (ow hw 31 rfl)) (by decide) (backOf (W := 0) (rm5_0 l Z a0 hw [] u h3 n0 (Nat.le_trans Z0 (Keep.of_wr W3).1) c7) hZ (ow hw 31 rfl) (ow hw 9 rfl) (by decide) (by decide)) (g := (mkF m 11 #[.val (.ref u), .val (.ref w), .val (.ref w), .unset] [(.ref u)])) rfl (by rw [hml]; rfl) (Steps.refl _) (a := u) (by rw [e5]; exact q8) q8' (argsL := []) (rest := []) (lenOf pd_4 rfl) rfl (by show 2 * 0 + _ ≤ _; exact Nat.le_of_eq rfl) (hb hby d4_11) (fun _ _ => ⟨rfl, e5, (by decide : 0 + 0 ≤ _), (by decide : 0 + 0 ≤ _)⟩)
  dsimp only [Pt.U, Pt.locs, Pt.cells, Pt.slots] at X8 l8 y8 z8 st8 hQ8
  subst l8 y8 z8
  obtain ⟨rfl, N8q, e8⟩ := hQ8
  have N8 := Fr.app N5 N8q
  have c11 := Fepl2.other W3 (Or.inl (Ne.symm ne_u_w))
  obtain ⟨T10, X10, e10, st10⟩ := getF X8 hx hZ hown (host := "") (Or.inl (ow hw 34 rfl)) Via.refl e8 c11 (g := (mkF m 16 #[.val (.ref u), .val (.ref w), .val (.ref w), .val (.ref u)] [(.ref w)])) rfl rfl (hb hby d4_16)
  have c13 := Fepl1.other W3 (Or.inr (slot_ne (Or.inl (ow hw 35 rfl)) (Or.inl (ow hw 27 rfl)) (by decide) (t := .int) (t' := (.object "com/example/framelatch/framelatch/Tree$Place")) (by decide) (by decide)))
  obtain ⟨T12, X12, e12, st12⟩ := getF X10 hx hZ hown (host := "") (Or.inl (ow hw 34 rfl)) Via.refl e10 c13 (g := (mkF m 20 #[.val (.ref u), .val (.ref w), .val (.ref w), .val (.ref u)] [(.ref u), (.int orr)])) rfl rfl (hb hby d4_20)
  obtain ⟨T14, h14, X14, e14, W14, st14⟩ := putF X12 hx hZ hown (host := "") (Or.inl (ow hw 32 rfl)) Via.refl e12 c4 c6 (Or.inl (ow hw 33 rfl)) (ow hw 8 rfl) (ty := (.object "com/example/framelatch/framelatch/Tree$Place")) (by decide) rfl rfl (g := (mkF m 28 #[.val (.ref u), .val (.ref w), .val (.ref w), .val (.ref u)] [(.ref u), (.ref w)])) rfl rfl (hb hby d4_28)
  have Fw14 := c4.same W14
  have N14 := Fr.snoc X14 N8 g0_w
  have c16 := Fbpl2.other W3 (Or.inl (Ne.symm ne_u_w))
  have c17 := c16.other W14 (Or.inr (slot_ne (Or.inl (ow hw 19 rfl)) (Or.inl (ow hw 33 rfl)) (by decide) (t := (.object "java/lang/Object")) (t' := (.object "com/example/framelatch/framelatch/Tree$Place")) (by decide) (by decide)))
  obtain ⟨T15, X15, e15, st15⟩ := getF X14 hx hZ hown (host := "") (Or.inl (ow hw 18 rfl)) Via.refl e14 c17 (g := (mkF m 33 #[.val (.ref u), .val (.ref w), .val (.ref w), .val (.ref u)] [(.ref w), (.ref u)])) rfl rfl (hb hby d4_33)
  have c19 := Fbpl1.other W3 (Or.inr (slot_ne (Or.inl (ow hw 19 rfl)) (Or.inl (ow hw 27 rfl)) (by decide) (t := (.object "java/lang/Object")) (t' := (.object "com/example/framelatch/framelatch/Tree$Place")) (by decide) (by decide)))
  have c20 := c19.other W14 (Or.inl ne_u_w)
  have c21 := c9.wr W14
  obtain ⟨T18, h18, X18, e18, W18, st18⟩ := putF X15 hx hZ hown (host := "") (Or.inl (ow hw 18 rfl)) Via.refl e15 c20 c21 (Or.inl (ow hw 19 rfl)) (ow hw 8 rfl) (ty := (.object "java/lang/Object")) (by decide) rfl rfl (g := (mkF m 36 #[.val (.ref u), .val (.ref w), .val (.ref w), .val (.ref u)] [(.ref ot), (.ref u)])) rfl rfl (hb hby d4_36)
  have Fw18 := c20.same W18
  have N18 := Fr.snoc X18 N14 g0_u
  have c23 := c17.other W18 (Or.inl (Ne.symm ne_u_w))
  have c24 := c6.wr W14
  have c25 := c24.wr W18
  obtain ⟨T22, h22, X22, e22, W22, st22⟩ := putF X18 hx hZ hown (host := "") (Or.inl (ow hw 18 rfl)) Via.refl e18 c23 c25 (Or.inl (ow hw 19 rfl)) (ow hw 8 rfl) (ty := (.object "java/lang/Object")) (by decide) rfl rfl (g := (mkF m 41 #[.val (.ref u), .val (.ref w), .val (.ref w), .val (.ref u)] [.null, (.ref w)])) rfl rfl (hb hby d4_41)
  have Fw22 := c23.same W22
  have N22 := Fr.snoc X22 N18 g0_w
  have kp26 : Keep h0 h22 [u, w] := (((((Keep.refl h0 [u, w]).wr W3 (Or.inl (List.mem_of_getElem? (i := 0) rfl))).wr W14 (Or.inl (List.mem_of_getElem? (i := 1) rfl))).wr W18 (Or.inl (List.mem_of_getElem? (i := 0) rfl))).wr W22 (Or.inl (List.mem_of_getElem? (i := 1) rfl)))
  have c27 := c21.wr W18
  have c28 := c27.wr W22
  have c29 := Fapl1.other W3 (Or.inr (slot_ne (Or.inr (ow hw 17 rfl)) (Or.inl (ow hw 27 rfl)) (by decide) (t := (.object "java/lang/Object")) (t' := (.object "com/example/framelatch/framelatch/Tree$Place")) (by decide) (by decide)))
  have c30 := c29.other W14 (Or.inl ne_u_w)
  have c31 := c30.other W18 (Or.inr (slot_ne (Or.inr (ow hw 17 rfl)) (Or.inl (ow hw 19 rfl)) (by decide) (t := (.object "java/lang/Object")) (t' := (.object "java/lang/Object")) (by decide) (by decide)))
  have c32 := c31.other W22 (Or.inl ne_u_w)
  have c33 := Fw18.other W22 (Or.inl ne_u_w)
  have c34 := Fw3.other W14 (Or.inl ne_u_w)
  have c35 := c34.other W18 (Or.inr (slot_ne (Or.inl (ow hw 27 rfl)) (Or.inl (ow hw 19 rfl)) (by decide) (t := (.object "com/example/framelatch/framelatch/Tree$Place")) (t' := (.object "java/lang/Object")) (by decide) (by decide)))
  have c36 := c35.other W22 (Or.inl ne_u_w)
  have c37 := c7.other W14 (Or.inl ne_u_w)
  have c38 := c37.other W18 (Or.inr (slot_ne (Or.inl (ow hw 33 rfl)) (Or.inl (ow hw 19 rfl)) (by decide) (t := (.object "com/example/framelatch/framelatch/Tree$Place")) (t' := (.object "java/lang/Object")) (by decide) (by decide)))
  have c39 := c38.other W22 (Or.inl ne_u_w)
  have c40 := c13.other W14 (Or.inl ne_u_w)
  have c41 := c40.other W18 (Or.inr (slot_ne (Or.inl (ow hw 35 rfl)) (Or.inl (ow hw 19 rfl)) (by decide) (t := .int) (t' := (.object "java/lang/Object")) (by decide) (by decide)))
  have c42 := c41.other W22 (Or.inl ne_u_w)
  have c43 := c25.wr W22
  have c44 := Fapl2.other W3 (Or.inl (Ne.symm ne_u_w))
  have c45 := c44.other W14 (Or.inr (slot_ne (Or.inr (ow hw 17 rfl)) (Or.inl (ow hw 33 rfl)) (by decide) (t := (.object "java/lang/Object")) (t' := (.object "com/example/framelatch/framelatch/Tree$Place")) (by decide) (by decide)))
  have c46 := c45.other W18 (Or.inl (Ne.symm ne_u_w))
  have c47 := c46.other W22 (Or.inr (slot_ne (Or.inr (ow hw 17 rfl)) (Or.inl (ow hw 19 rfl)) (by decide) (t := (.object "java/lang/Object")) (t' := (.object "java/lang/Object")) (by decide) (by decide)))
  have c48 := Fcpl2.other W3 (Or.inl (Ne.symm ne_u_w))
  have c49 := c48.other W14 (Or.inr (slot_ne (Or.inl (ow hw 27 rfl)) (Or.inl (ow hw 33 rfl)) (by decide) (t := (.object "com/example/framelatch/framelatch/Tree$Place")) (t' := (.object "com/example/framelatch/framelatch/Tree$Place")) (by decide) (by decide)))
  have c50 := c49.other W18 (Or.inl (Ne.symm ne_u_w))
  have c51 := c50.other W22 (Or.inr (slot_ne (Or.inl (ow hw 27 rfl)) (Or.inl (ow hw 19 rfl)) (by decide) (t := (.object "com/example/framelatch/framelatch/Tree$Place")) (t' := (.object "java/lang/Object")) (by decide) (by decide)))
  have c52 := Fw14.other W18 (Or.inl (Ne.symm ne_u_w))
  have c53 := c52.other W22 (Or.inr (slot_ne (Or.inl (ow hw 33 rfl)) (Or.inl (ow hw 19 rfl)) (by decide) (t := (.object "com/example/framelatch/framelatch/Tree$Place")) (t' := (.object "java/lang/Object")) (by decide) (by decide)))
  have c54 := c11.other W14 (Or.inr (slot_ne (Or.inl (ow hw 35 rfl)) (Or.inl (ow hw 33 rfl)) (by decide) (t := .int) (t' := (.object "com/example/framelatch/framelatch/Tree$Place")) (by decide) (by decide)))
  have c55 := c54.other W18 (Or.inl (Ne.symm ne_u_w))
  have c56 := c55.other W22 (Or.inr (slot_ne (Or.inl (ow hw 35 rfl)) (Or.inl (ow hw 19 rfl)) (by decide) (t := .int) (t' := (.object "java/lang/Object")) (by decide) (by decide)))
  obtain ⟨fs, hr, hrun, hended, hW, hsame⟩ := X22.leave (v := none) (fun _ => rfl)
  refine ⟨_, _, pre0 _ ?_, hrun, hended, _, _, rfl, ?_, ⟨_, rfl⟩, hW, hsame.mono (by decide) (by decide)⟩
  · show Steps p.tables e below (s₁.setTop (mkF m 0 #[.val (.ref u), .val (.ref w), .unset, .unset] [])) _
    refine XS.aloadN X0.here hx rfl (hb hby d4_0) rfl rfl ?_
    show Steps p.tables e below (s₁.setTop (mkF m 1 #[.val (.ref u), .val (.ref w), .unset, .unset] [(.ref u)])) _
    refine XS.aloadN X0.here hx rfl (hb hby d4_1) rfl rfl ?_
    show Steps p.tables e below (s₁.setTop (mkF m 2 #[.val (.ref u), .val (.ref w), .unset, .unset] [(.ref w), (.ref u)])) _
    refine st3 _ ?_
    show Steps p.tables e below (T3.setTop (mkF m 5 #[.val (.ref u), .val (.ref w), .unset, .unset] [])) _
    refine XS.aloadN X3.here hx rfl (hb hby d4_5) rfl rfl ?_
    show Steps p.tables e below (T3.setTop (mkF m 6 #[.val (.ref u), .val (.ref w), .unset, .unset] [(.ref w)])) _
    refine st5.trans ?_
    show Steps p.tables e below (T5.setTop (mkF m 9 #[.val (.ref u), .val (.ref w), .unset, .unset] [(.ref w)])) _
    refine XS.astoreN X5.here hx rfl (hb hby d4_9) rfl rfl (l' := #[.val (.ref u), .val (.ref w), .val (.ref w), .unset]) rfl ?_
    show Steps p.tables e below (T5.setTop (mkF m 10 #[.val (.ref u), .val (.ref w), .val (.ref w), .unset] [])) _
    refine XS.aloadN X5.here hx rfl (hb hby d4_10) rfl rfl ?_
    show Steps p.tables e below (T5.setTop (mkF m 11 #[.val (.ref u), .val (.ref w), .val (.ref w), .unset] [(.ref u)])) _
    refine st8.trans ?_
    show Steps p.tables e below (T8.setTop (mkF m 14 #[.val (.ref u), .val (.ref w), .val (.ref w), .unset] [(.ref u)])) _
    refine XS.astoreN X8.here hx rfl (hb hby d4_14) rfl rfl (l' := #[.val (.ref u), .val (.ref w), .val (.ref w), .val (.ref u)]) rfl ?_
    show Steps p.tables e below (T8.setTop (mkF m 15 #[.val (.ref u), .val (.ref w), .val (.ref w), .val (.ref u)] [])) _
    refine XS.aloadN X8.here hx rfl (hb hby d4_15) rfl rfl ?_
    show Steps p.tables e below (T8.setTop (mkF m 16 #[.val (.ref u), .val (.ref w), .val (.ref w), .val (.ref u)] [(.ref w)])) _
    refine st10 _ ?_
    show Steps p.tables e below (T10.setTop (mkF m 19 #[.val (.ref u), .val (.ref w), .val (.ref w), .val (.ref u)] [(.int orr)])) _
    refine XS.aloadN X10.here hx rfl (hb hby d4_19) rfl rfl ?_
    show Steps p.tables e below (T10.setTop (mkF m 20 #[.val (.ref u), .val (.ref w), .val (.ref w), .val (.ref u)] [(.ref u), (.int orr)])) _
    refine st12 _ ?_
    show Steps p.tables e below (T12.setTop (mkF m 23 #[.val (.ref u), .val (.ref w), .val (.ref w), .val (.ref u)] [(.int tr), (.int orr)])) _
    refine XS.icmpNo X12.here hx rfl (hb hby d4_23) rfl (tlt hc23).2.1 ?_
    show Steps p.tables e below (T12.setTop (mkF m 26 #[.val (.ref u), .val (.ref w), .val (.ref w), .val (.ref u)] [])) _
    refine XS.aloadN X12.here hx rfl (hb hby d4_26) rfl rfl ?_
    show Steps p.tables e below (T12.setTop (mkF m 27 #[.val (.ref u), .val (.ref w), .val (.ref w), .val (.ref u)] [(.ref w)])) _
    refine XS.aloadN X12.here hx rfl (hb hby d4_27) rfl rfl ?_
    show Steps p.tables e below (T12.setTop (mkF m 28 #[.val (.ref u), .val (.ref w), .val (.ref w), .val (.ref u)] [(.ref u), (.ref w)])) _
    refine st14 _ ?_
    show Steps p.tables e below (T14.setTop (mkF m 31 #[.val (.ref u), .val (.ref w), .val (.ref w), .val (.ref u)] [])) _
    refine XS.aloadN X14.here hx rfl (hb hby d4_31) rfl rfl ?_
    show Steps p.tables e below (T14.setTop (mkF m 32 #[.val (.ref u), .val (.ref w), .val (.ref w), .val (.ref u)] [(.ref u)])) _
    refine XS.aloadN X14.here hx rfl (hb hby d4_32) rfl rfl ?_
    show Steps p.tables e below (T14.setTop (mkF m 33 #[.val (.ref u), .val (.ref w), .val (.ref w), .val (.ref u)] [(.ref w), (.ref u)])) _
    refine st15 _ ?_
    show Steps p.tables e below (T15.setTop (mkF m 36 #[.val (.ref u), .val (.ref w), .val (.ref w), .val (.ref u)] [(.ref ot), (.ref u)])) _
    refine st18 _ ?_
    show Steps p.tables e below (T18.setTop (mkF m 39 #[.val (.ref u), .val (.ref w), .val (.ref w), .val (.ref u)] [])) _
    refine XS.aloadN X18.here hx rfl (hb hby d4_39) rfl rfl ?_
    show Steps p.tables e below (T18.setTop (mkF m 40 #[.val (.ref u), .val (.ref w), .val (.ref w), .val (.ref u)] [(.ref w)])) _
    refine XS.aconstNull X18.here hx rfl (hb hby d4_40) ?_
    show Steps p.tables e below (T18.setTop (mkF m 41 #[.val (.ref u), .val (.ref w), .val (.ref w), .val (.ref u)] [.null, (.ref w)])) _
    refine st22 _ ?_
    show Steps p.tables e below (T22.setTop (mkF m 44 #[.val (.ref u), .val (.ref w), .val (.ref w), .val (.ref u)] [])) _
    refine XS.goto X22.here hx rfl (pc0 := 44) (pc' := 78) rfl (hb hby d4_44) (by decide) (by decide) ?_
    show Steps p.tables e below (T22.setTop (mkF m 78 #[.val (.ref u), .val (.ref w), .val (.ref w), .val (.ref u)] [])) _
    exact X22.returnOut hx Bd.returns (hb hby d4_78) hr
  · show QP2 Z u tn (.ref ot) (.ref w) .null tr w on .null op (.ref u) orr h0 n0 _ T22.heap _
    rw [e22]
    exact ⟨rfl, N22, kp26, ⟨c28, c32, c33, c36, c39, c42⟩, ⟨c43, c47, Fw22, c51, c53, c56⟩⟩
set_option maxRecDepth 65536 in
set_option maxHeartbeats 40000000 in
theorem rm4_D (l : Launch) (Z : State) (a0 : Array Value) (hw : ∀ d ∈ tables_1, d.before a0 Z = true) (ws : List Jvm.Cond) (u : Addr) (w : Addr) (tn : Value) (tq : Value) (tp : Value) (tr : Int32) (on : Value) (ot : Addr) (op : Value) (orr : Int32) (h0 : Heap) (n0 : Nat) (Z0 : n0 ≤ h0.size) (ne_u_w : u ≠ w) (g0_u : n0 ≤ u) (Pu : PlAt Z h0 u tn tq tp .null tr) (Pw : PlAt Z h0 w on (.ref ot) op .null orr) (hc23 : ¬ (orr < tr)) (hc65 : ¬ (orr = tr)) :
    MetFree l nm_4 (head1 (Jvm.Cond.code nm_4 prog_62_method_4_code 4 none :: ws) rr_1_0_0_13) (fun aa U => aa = #[(.ref u), (.ref w)] ∧ Z.Warmed39 U.vm ∧ U.heap = h0) (fun _ _ _ _ _ => True) (fun _ U o U' => ∃ v L, o = .returned v ∧ QP1 Z u tn .null (.ref w) (.ref w) tr h0 n0 v U'.heap L ∧ FrameEnd U o U' L rr_1_0_0_13.cells rr_1_0_0_13.slots) := by
  refine MetFree.of_bodySF (plainFor_of_name pn_com_example_framelatch_framelatch_Tree_Place) hisR ?_
  intro p e s m args below meth c s₁ Bd hml0 hP hK
  obtain ⟨rfl, hZ, hh⟩ := hP
  have hx := Bd.exec
  have hby := Bd.bytes
  have hml : c.maxLocals = 4 := hml0
  have hown : s.vm.findClass "com/example/framelatch/framelatch/Tree$Place" = some m.cls := findClass_of_methodNamed Bd.named
  have hnm := (name_of_methodNamed Bd.named Bd.method).1
  have X0 : Stand p l e rr_1_0_0_13 s m #[(.ref u), (.ref w)] below meth c s₁ [] 0 0 := Stand.of_body Bd
  have e0 : s₁.heap = h0 := by rw [← hh, Bd.state]; rfl
  have N0 := Fr.nil n0
  have pre0 : ∀ t, Steps p.tables e below (s₁.setTop (mkF m 0 #[.val (.ref u), .val (.ref w), .unset, .unset] [])) t → Steps p.tables e below (s₁.setTop (entryFrame m #[(.ref u), (.ref w)] 4)) t := fun t k => castTop (ef_4 m u w) k
  obtain ⟨Epl1, Fapl1, Fbpl1, Fcpl1, Fdpl1, Fepl1⟩ := Pu
  obtain ⟨Epl2, Fapl2, Fbpl2, Fcpl2, Fdpl2, Fepl2⟩ := Pw
  obtain ⟨T3, h3, X3, e3, W3, st3⟩ := putF X0 hx hZ hown (host := "") (Or.inl (ow hw 26 rfl)) Via.refl e0 Fcpl1 Epl1 (Or.inl (ow hw 27 rfl)) (ow hw 8 rfl) (ty := (.object "com/example/framelatch/framelatch/Tree$Place")) (by decide) rfl rfl (g := (mkF m 2 #[.val (.ref u), .val (.ref w), .unset, .unset] [(.ref w), (.ref u)])) rfl rfl (hb hby d4_2)
  have Fw3 := Fcpl1.same W3
  have N3 := Fr.snoc X3 N0 g0_u
  have c4 := Fdpl2.other W3 (Or.inl (Ne.symm ne_u_w))
  have c6 := Epl2.wr W3
  obtain ⟨cq5, q5, q5'⟩ := c6.cell
  obtain ⟨_, _, ⟨T5, L5, k5, n5⟩, -, X5, ⟨Lc5, hQ5, l5, y5, z5⟩, st5⟩ := X3.privateBack hx (y := nm_5) hown (mvT hZ (ow hw 28 rfl)) (mvT hZ (ow hw 29 rfl)) (own_selP (mvT (args := #[]) hZ (ow hw 8 rfl)) (mvP hZ (ow hw 30 rfl) (args := #[])) (mvT hZ (ow hw 29 rfl)) (by decide)) (Cond.privateMethod_at (mvP hZ (ow hw 30 rfl) (args := #[]))) (mvT hZ (ow hw 31 rfl)) (by decide) (backOf (W := 0) (rm5_0 l Z a0 hw [] w h3 n0 (Nat.le_trans Z0 (Keep.of_wr W3).1) c4) hZ (ow hw 31 rfl) (ow hw 9 rfl) (by decide) (by decide)) (g := (mkF m 6 #[.val (.ref u), .val (.ref w), .unset, .unset] [(.ref w)])) rfl (by rw [hml]; rfl) (Steps.refl _) (a := w) (by rw [e3]; exact q5) q5' (argsL := []) (rest := []) (lenOf pd_4 rfl) rfl (by show 2 * 0 + _ ≤ _; exact Nat.le_of_eq rfl) (hb hby d4_6) (fun _ _ => ⟨rfl, e3, (by decide : 0 + 0 ≤ _), (by decide : 0 + 0 ≤ _)⟩)
  dsimp only [Pt.U, Pt.locs, Pt.cells, Pt.slots] at X5 l5 y5 z5 st5 hQ5
  subst l5 y5 z5
  obtain ⟨rfl, N5q, e5⟩ := hQ5
  have N5 := Fr.app N3 N5q
  have c7 := Fdpl1.other W3 (Or.inr (slot_ne (Or.inl (ow hw 33 rfl)) (Or.inl (ow hw 27 rfl)) (by decide) (t := (.object "com/example/framelatch/framelatch/Tree$Place")) (t' := (.object "com/example/framelatch/framelatch/Tree$Place")) (by decide) (by decide)))
  have c9 := Epl1.wr W3
  obtain ⟨cq8, q8, q8'⟩ := c9.cell
  obtain ⟨_, _, ⟨T8, L8, k8, n8⟩, -, X8, ⟨Lc8, hQ8, l8, y8, z8⟩, st8⟩ := X5.privateBack hx (y := nm_5) hown (mvT hZ (ow hw 28 rfl)) (mvT hZ (ow hw 29 rfl)) (own_selP (mvT (args := #[]) hZ (ow hw 8 rfl)) (mvP hZ (ow hw 30 rfl) (args := #[])) (mvT hZ (ow hw 29 rfl)) (by decide)) (Cond.privateMethod_at (mvP hZ (ow hw 30 rfl) (args := #[]))) (mvT hZ (ow hw 31 rfl)) (by decide) (backOf (W := 0) (rm5_0 l Z a0 hw [] u h3 n0 (Nat.le_trans Z0 (Keep.of_wr W3).1) c7) hZ (ow hw 31 rfl) (ow hw 9 rfl) (by decide) (by decide)) (g := (mkF m 11 #[.val (.ref u), .val (.ref w), .val (.ref w), .unset] [(.ref u)])) rfl (by rw [hml]; rfl) (Steps.refl _) (a := u) (by rw [e5]; exact q8) q8' (argsL := []) (rest := []) (lenOf pd_4 rfl) rfl (by show 2 * 0 + _ ≤ _; exact Nat.le_of_eq rfl) (hb hby d4_11) (fun _ _ => ⟨rfl, e5, (by decide : 0 + 0 ≤ _), (by decide : 0 + 0 ≤ _)⟩)
  dsimp only [Pt.U, Pt.locs, Pt.cells, Pt.slots] at X8 l8 y8 z8 st8 hQ8
  subst l8 y8 z8
  obtain ⟨rfl, N8q, e8⟩ := hQ8
  have N8 := Fr.app N5 N8q
  have c11 := Fepl2.other W3 (Or.inl (Ne.symm ne_u_w))
  obtain ⟨T10, X10, e10, st10⟩ := getF X8 hx hZ hown (host := "") (Or.inl (ow hw 34 rfl)) Via.refl e8 c11 (g := (mkF m 16 #[.val (.ref u), .val (.ref w), .val (.ref w), .val (.ref u)] [(.ref w)])) rfl rfl (hb hby d4_16)
  have c13 := Fepl1.other W3 (Or.inr (slot_ne (Or.inl (ow hw 35 rfl)) (Or.inl (ow hw 27 rfl)) (by decide) (t := .int) (t' := (.object "com/example/framelatch/framelatch/Tree$Place")) (by decide) (by decide)))
  obtain ⟨T12, X12, e12, st12⟩ := getF X10 hx hZ hown (host := "") (Or.inl (ow hw 34 rfl)) Via.refl e10 c13 (g := (mkF m 20 #[.val (.ref u), .val (.ref w), .val (.ref w), .val (.ref u)] [(.ref u), (.int orr)])) rfl rfl (hb hby d4_20)
  obtain ⟨T14, h14, X14, e14, W14, st14⟩ := putF X12 hx hZ hown (host := "") (Or.inl (ow hw 32 rfl)) Via.refl e12 c7 c9 (Or.inl (ow hw 33 rfl)) (ow hw 8 rfl) (ty := (.object "com/example/framelatch/framelatch/Tree$Place")) (by decide) rfl rfl (g := (mkF m 49 #[.val (.ref u), .val (.ref w), .val (.ref w), .val (.ref u)] [(.ref w), (.ref u)])) rfl rfl (hb hby d4_49)
  have Fw14 := c7.same W14
  have N14 := Fr.snoc X14 N8 g0_u
  have c16 := Fbpl1.other W3 (Or.inr (slot_ne (Or.inl (ow hw 19 rfl)) (Or.inl (ow hw 27 rfl)) (by decide) (t := (.object "java/lang/Object")) (t' := (.object "com/example/framelatch/framelatch/Tree$Place")) (by decide) (by decide)))
  have c17 := c16.other W14 (Or.inr (slot_ne (Or.inl (ow hw 19 rfl)) (Or.inl (ow hw 33 rfl)) (by decide) (t := (.object "java/lang/Object")) (t' := (.object "com/example/framelatch/framelatch/Tree$Place")) (by decide) (by decide)))
  have c18 := c9.wr W14
  obtain ⟨T15, h15, X15, e15, W15, st15⟩ := putF X14 hx hZ hown (host := "") (Or.inl (ow hw 18 rfl)) Via.refl e14 c17 c18 (Or.inl (ow hw 19 rfl)) (ow hw 8 rfl) (ty := (.object "java/lang/Object")) (by decide) rfl rfl (g := (mkF m 54 #[.val (.ref u), .val (.ref w), .val (.ref w), .val (.ref u)] [.null, (.ref u)])) rfl rfl (hb hby d4_54)
  have Fw15 := c17.same W15
  have N15 := Fr.snoc X15 N14 g0_u
  have c20 := c11.other W14 (Or.inl (Ne.symm ne_u_w))
  have c21 := c20.other W15 (Or.inl (Ne.symm ne_u_w))
  obtain ⟨T19, X19, e19, st19⟩ := getF X15 hx hZ hown (host := "") (Or.inl (ow hw 34 rfl)) Via.refl e15 c21 (g := (mkF m 58 #[.val (.ref u), .val (.ref w), .val (.ref w), .val (.ref u)] [(.ref w)])) rfl rfl (hb hby d4_58)
  have c23 := c13.other W14 (Or.inr (slot_ne (Or.inl (ow hw 35 rfl)) (Or.inl (ow hw 33 rfl)) (by decide) (t := .int) (t' := (.object "com/example/framelatch/framelatch/Tree$Place")) (by decide) (by decide)))
  have c24 := c23.other W15 (Or.inr (slot_ne (Or.inl (ow hw 35 rfl)) (Or.inl (ow hw 19 rfl)) (by decide) (t := .int) (t' := (.object "java/lang/Object")) (by decide) (by decide)))
  obtain ⟨T22, X22, e22, st22⟩ := getF X19 hx hZ hown (host := "") (Or.inl (ow hw 34 rfl)) Via.refl e19 c24 (g := (mkF m 62 #[.val (.ref u), .val (.ref w), .val (.ref w), .val (.ref u)] [(.ref u), (.int orr)])) rfl rfl (hb hby d4_62)
  have kp25 : Keep h0 h15 [u] := ((((Keep.refl h0 [u]).wr W3 (Or.inl (List.mem_of_getElem? (i := 0) rfl))).wr W14 (Or.inl (List.mem_of_getElem? (i := 0) rfl))).wr W15 (Or.inl (List.mem_of_getElem? (i := 0) rfl)))
  have c26 := c18.wr W15
  have c27 := Fapl1.other W3 (Or.inr (slot_ne (Or.inr (ow hw 17 rfl)) (Or.inl (ow hw 27 rfl)) (by decide) (t := (.object "java/lang/Object")) (t' := (.object "com/example/framelatch/framelatch/Tree$Place")) (by decide) (by decide)))
  have c28 := c27.other W14 (Or.inr (slot_ne (Or.inr (ow hw 17 rfl)) (Or.inl (ow hw 33 rfl)) (by decide) (t := (.object "java/lang/Object")) (t' := (.object "com/example/framelatch/framelatch/Tree$Place")) (by decide) (by decide)))
  have c29 := c28.other W15 (Or.inr (slot_ne (Or.inr (ow hw 17 rfl)) (Or.inl (ow hw 19 rfl)) (by decide) (t := (.object "java/lang/Object")) (t' := (.object "java/lang/Object")) (by decide) (by decide)))
  have c30 := Fw3.other W14 (Or.inr (slot_ne (Or.inl (ow hw 27 rfl)) (Or.inl (ow hw 33 rfl)) (by decide) (t := (.object "com/example/framelatch/framelatch/Tree$Place")) (t' := (.object "com/example/framelatch/framelatch/Tree$Place")) (by decide) (by decide)))
  have c31 := c30.other W15 (Or.inr (slot_ne (Or.inl (ow hw 27 rfl)) (Or.inl (ow hw 19 rfl)) (by decide) (t := (.object "com/example/framelatch/framelatch/Tree$Place")) (t' := (.object "java/lang/Object")) (by decide) (by decide)))
  have c32 := Fw14.other W15 (Or.inr (slot_ne (Or.inl (ow hw 33 rfl)) (Or.inl (ow hw 19 rfl)) (by decide) (t := (.object "com/example/framelatch/framelatch/Tree$Place")) (t' := (.object "java/lang/Object")) (by decide) (by decide)))
  obtain ⟨fs, hr, hrun, hended, hW, hsame⟩ := X22.leave (v := none) (fun _ => rfl)
  refine ⟨_, _, pre0 _ ?_, hrun, hended, _, _, rfl, ?_, ⟨_, rfl⟩, hW, hsame.mono (by decide) (by decide)⟩
  · show Steps p.tables e below (s₁.setTop (mkF m 0 #[.val (.ref u), .val (.ref w), .unset, .unset] [])) _
    refine XS.aloadN X0.here hx rfl (hb hby d4_0) rfl rfl ?_
    show Steps p.tables e below (s₁.setTop (mkF m 1 #[.val (.ref u), .val (.ref w), .unset, .unset] [(.ref u)])) _
    refine XS.aloadN X0.here hx rfl (hb hby d4_1) rfl rfl ?_
    show Steps p.tables e below (s₁.setTop (mkF m 2 #[.val (.ref u), .val (.ref w), .unset, .unset] [(.ref w), (.ref u)])) _
    refine st3 _ ?_
    show Steps p.tables e below (T3.setTop (mkF m 5 #[.val (.ref u), .val (.ref w), .unset, .unset] [])) _
    refine XS.aloadN X3.here hx rfl (hb hby d4_5) rfl rfl ?_
    show Steps p.tables e below (T3.setTop (mkF m 6 #[.val (.ref u), .val (.ref w), .unset, .unset] [(.ref w)])) _
    refine st5.trans ?_
    show Steps p.tables e below (T5.setTop (mkF m 9 #[.val (.ref u), .val (.ref w), .unset, .unset] [(.ref w)])) _
    refine XS.astoreN X5.here hx rfl (hb hby d4_9) rfl rfl (l' := #[.val (.ref u), .val (.ref w), .val (.ref w), .unset]) rfl ?_
    show Steps p.tables e below (T5.setTop (mkF m 10 #[.val (.ref u), .val (.ref w), .val (.ref w), .unset] [])) _
    refine XS.aloadN X5.here hx rfl (hb hby d4_10) rfl rfl ?_
    show Steps p.tables e below (T5.setTop (mkF m 11 #[.val (.ref u), .val (.ref w), .val (.ref w), .unset] [(.ref u)])) _
    refine st8.trans ?_
    show Steps p.tables e below (T8.setTop (mkF m 14 #[.val (.ref u), .val (.ref w), .val (.ref w), .unset] [(.ref u)])) _
    refine XS.astoreN X8.here hx rfl (hb hby d4_14) rfl rfl (l' := #[.val (.ref u), .val (.ref w), .val (.ref w), .val (.ref u)]) rfl ?_
    show Steps p.tables e below (T8.setTop (mkF m 15 #[.val (.ref u), .val (.ref w), .val (.ref w), .val (.ref u)] [])) _
    refine XS.aloadN X8.here hx rfl (hb hby d4_15) rfl rfl ?_
    show Steps p.tables e below (T8.setTop (mkF m 16 #[.val (.ref u), .val (.ref w), .val (.ref w), .val (.ref u)] [(.ref w)])) _
    refine st10 _ ?_
    show Steps p.tables e below (T10.setTop (mkF m 19 #[.val (.ref u), .val (.ref w), .val (.ref w), .val (.ref u)] [(.int orr)])) _
    refine XS.aloadN X10.here hx rfl (hb hby d4_19) rfl rfl ?_
    show Steps p.tables e below (T10.setTop (mkF m 20 #[.val (.ref u), .val (.ref w), .val (.ref w), .val (.ref u)] [(.ref u), (.int orr)])) _
    refine st12 _ ?_
    show Steps p.tables e below (T12.setTop (mkF m 23 #[.val (.ref u), .val (.ref w), .val (.ref w), .val (.ref u)] [(.int tr), (.int orr)])) _
    refine XS.icmpYes X12.here hx rfl (pc0 := 23) (pc' := 47) rfl (hb hby d4_23) rfl (flt hc23).2.1 (by decide) (by decide) ?_
    show Steps p.tables e below (T12.setTop (mkF m 47 #[.val (.ref u), .val (.ref w), .val (.ref w), .val (.ref u)] [])) _
    refine XS.aloadN X12.here hx rfl (hb hby d4_47) rfl rfl ?_
    show Steps p.tables e below (T12.setTop (mkF m 48 #[.val (.ref u), .val (.ref w), .val (.ref w), .val (.ref u)] [(.ref u)])) _
    refine XS.aloadN X12.here hx rfl (hb hby d4_48) rfl rfl ?_
    show Steps p.tables e below (T12.setTop (mkF m 49 #[.val (.ref u), .val (.ref w), .val (.ref w), .val (.ref u)] [(.ref w), (.ref u)])) _
    refine st14 _ ?_
    show Steps p.tables e below (T14.setTop (mkF m 52 #[.val (.ref u), .val (.ref w), .val (.ref w), .val (.ref u)] [])) _
    refine XS.aloadN X14.here hx rfl (hb hby d4_52) rfl rfl ?_
    show Steps p.tables e below (T14.setTop (mkF m 53 #[.val (.ref u), .val (.ref w), .val (.ref w), .val (.ref u)] [(.ref u)])) _
    refine XS.aconstNull X14.here hx rfl (hb hby d4_53) ?_
    show Steps p.tables e below (T14.setTop (mkF m 54 #[.val (.ref u), .val (.ref w), .val (.ref w), .val (.ref u)] [.null, (.ref u)])) _
    refine st15 _ ?_
    show Steps p.tables e below (T15.setTop (mkF m 57 #[.val (.ref u), .val (.ref w), .val (.ref w), .val (.ref u)] [])) _
    refine XS.aloadN X15.here hx rfl (hb hby d4_57) rfl rfl ?_
    show Steps p.tables e below (T15.setTop (mkF m 58 #[.val (.ref u), .val (.ref w), .val (.ref w), .val (.ref u)] [(.ref w)])) _
    refine st19 _ ?_
    show Steps p.tables e below (T19.setTop (mkF m 61 #[.val (.ref u), .val (.ref w), .val (.ref w), .val (.ref u)] [(.int orr)])) _
    refine XS.aloadN X19.here hx rfl (hb hby d4_61) rfl rfl ?_
    show Steps p.tables e below (T19.setTop (mkF m 62 #[.val (.ref u), .val (.ref w), .val (.ref w), .val (.ref u)] [(.ref u), (.int orr)])) _
    refine st22 _ ?_
    show Steps p.tables e below (T22.setTop (mkF m 65 #[.val (.ref u), .val (.ref w), .val (.ref w), .val (.ref u)] [(.int tr), (.int orr)])) _
    refine XS.icmpYes X22.here hx rfl (pc0 := 65) (pc' := 78) rfl (hb hby d4_65) rfl (feq hc65).2 (by decide) (by decide) ?_
    show Steps p.tables e below (T22.setTop (mkF m 78 #[.val (.ref u), .val (.ref w), .val (.ref w), .val (.ref u)] [])) _
    exact X22.returnOut hx Bd.returns (hb hby d4_78) hr
  · show QP1 Z u tn .null (.ref w) (.ref w) tr h0 n0 _ T22.heap _
    rw [e22]
    exact ⟨rfl, N15, kp25, ⟨c26, c29, Fw15, c31, c32, c24⟩⟩
theorem pd_0 : parseMethodDescriptor "(I)Ljava/lang/Integer;" = some ⟨[.int], some (.object "java/lang/Integer")⟩ := by decide +kernel
theorem pd_1 : parseMethodDescriptor "(Ljava/lang/Object;)V" = some ⟨[(.object "java/lang/Object")], none⟩ := by decide +kernel
theorem pd_5 : parseMethodDescriptor "()Ljava/lang/Object;" = some ⟨[], some (.object "java/lang/Object")⟩ := by decide +kernel
theorem pn_com_example_framelatch_framelatch_PlaceParentPinLaw : plainName "com/example/framelatch/framelatch/PlaceParentPinLaw" = true := by first | (simp [plainName, overriddenIn]; done) | decide +kernel
theorem ef_0 (m : MethodId) (x0 : Int32) (x1 : Int32) (x2 : Int32) (x3 : Int32) : entryFrame m #[(.int x0), (.int x1), (.int x2), (.int x3)] maxLocals = mkF m 0 #[.val (.int x0), .val (.int x1), .val (.int x2), .val (.int x3), .unset, .unset, .unset, .unset, .unset, .unset, .unset, .unset, .unset] [] := by first | (simp [entryFrame, mkF, argsToLocals, Value.category, maxLocals]; done) | rfl
set_option maxRecDepth 65536 in
set_option maxHeartbeats 40000000 in
theorem rm0_0 (l : Launch) (Z : State) (a0 : Array Value) (hw : ∀ d ∈ tables_1, d.before a0 Z = true) (ws : List Jvm.Cond) (p1 : Int32) (p2 : Int32) (p3 : Int32) (p4 : Int32) (cb : Addr) (h0 : Heap) (n0 : Nat) (Z0 : n0 ≤ h0.size) (O0 : Old Z n0 h0) (SHZ : Sta Z Z.heap "java/lang/Integer$IntegerCache" "high" "I" (.int (127 : Int32))) (SCZ : Sta Z Z.heap "java/lang/Integer$IntegerCache" "cache" "[Ljava/lang/Integer;" (.ref cb)) (LC : ICache Z cb) (hc68 : ¬ (((p4 &&& (2147483647 : Int32)) % (5 : Int32)) = (1 : Int32))) (hc88 : ¬ (((p4 &&& (2147483647 : Int32)) % (5 : Int32)) = (2 : Int32))) (hc119 : ¬ (((p4 &&& (2147483647 : Int32)) % (5 : Int32)) = (3 : Int32))) (hc150 : ¬ (((p4 &&& (2147483647 : Int32)) % (5 : Int32)) = (4 : Int32))) :
    MetFree l x (head1 (Jvm.Cond.code x code maxLocals ret :: ws) room_1) (fun aa U => aa = #[(.int p1), (.int p2), (.int p3), (.int p4)] ∧ Z.Warmed39 U.vm ∧ U.heap = h0) (fun _ _ _ _ _ => True) (fun _ U o U' => ∃ v L, o = .returned v ∧ QF h0 n0 v U'.heap L ∧ FrameEnd U o U' L room_1.cells room_1.slots) := by
  refine MetFree.of_bodySF (plainFor_of_name pn_com_example_framelatch_framelatch_PlaceParentPinLaw) hisR ?_
  intro p e s m args below meth c s₁ Bd hml0 hP hK
  obtain ⟨rfl, hZ, hh⟩ := hP
  have hx := Bd.exec
  have hby := Bd.bytes
  have hml : c.maxLocals = 13 := hml0
  have hown : s.vm.findClass "com/example/framelatch/framelatch/PlaceParentPinLaw" = some m.cls := findClass_of_methodNamed Bd.named
  have hnm := (name_of_methodNamed Bd.named Bd.method).1
  have X0 : Stand p l e room_1 s m #[(.int p1), (.int p2), (.int p3), (.int p4)] below meth c s₁ [] 0 0 := Stand.of_body Bd
  have e0 : s₁.heap = h0 := by rw [← hh, Bd.state]; rfl
  have N0 := Fr.nil n0
  have pre0 : ∀ t, Steps p.tables e below (s₁.setTop (mkF m 0 #[.val (.int p1), .val (.int p2), .val (.int p3), .val (.int p4), .unset, .unset, .unset, .unset, .unset, .unset, .unset, .unset, .unset] [])) t → Steps p.tables e below (s₁.setTop (entryFrame m #[(.int p1), (.int p2), (.int p3), (.int p4)] maxLocals)) t := fun t k => castTop (ef_0 m p1 p2 p3 p4) k
  obtain ⟨_, _, ⟨T1, L1, k1, n1⟩, -, X1, ⟨Lc1, hQ1, l1, y1, z1⟩, st1⟩ := Jvm.LawKit.callS X0 hx (y := nm_1) hown (mvT hZ (ow hw 0 rfl)) (mvT hZ (ow hw 1 rfl)) (mvT hZ (ow hw 2 rfl)) (mvT hZ (ow hw 3 rfl)) (by decide) (backOf (W := 0) (rm1 l Z a0 hw [] p1 cb h0 n0 Z0 O0 SHZ SCZ LC) hZ (ow hw 3 rfl) (ow hw 2 rfl) (by decide) (by decide)) (g := (mkF m 1 #[.val (.int p1), .val (.int p2), .val (.int p3), .val (.int p4), .unset, .unset, .unset, .unset, .unset, .unset, .unset, .unset, .unset] [(.int p1)])) rfl (by rw [hml]; rfl) (argsL := [(.int p1)]) (rest := []) (lenOf pd_0 rfl) rfl (by show 2 * 0 + _ ≤ _; exact Nat.le_of_eq rfl) (hb hby at_1) (fun _ _ => ⟨rfl, e0, (by decide : 0 + 1 ≤ _), (by decide : 0 + 1 ≤ _)⟩)
  dsimp only [Pt.U, Pt.locs, Pt.cells, Pt.slots] at X1 l1 y1 z1 st1 hQ1
  subst l1 y1 z1
  obtain ⟨av1, rfl, N1q, Ev1⟩ := hQ1
  have N1 := Fr.app N0 N1q
  have c2 := O0.ext Ev1
  obtain ⟨_, _, ⟨T3, L3, k3, n3⟩, -, X3, ⟨Lc3, hQ3, l3, y3, z3⟩, st3⟩ := Jvm.LawKit.callS X1 hx (y := nm_1) hown (mvT hZ (ow hw 0 rfl)) (mvT hZ (ow hw 1 rfl)) (mvT hZ (ow hw 2 rfl)) (mvT hZ (ow hw 3 rfl)) (by decide) (backOf (W := 0) (rm1 l Z a0 hw [] p2 cb T1.heap n0 (Nat.le_trans Z0 Ev1.1) c2 SHZ SCZ LC) hZ (ow hw 3 rfl) (ow hw 2 rfl) (by decide) (by decide)) (g := (mkF m 7 #[.val (.int p1), .val (.int p2), .val (.int p3), .val (.int p4), .val (.ref av1), .unset, .unset, .unset, .unset, .unset, .unset, .unset, .unset] [(.int p2)])) rfl (by rw [hml]; rfl) (argsL := [(.int p2)]) (rest := []) (lenOf pd_0 rfl) rfl (by show 2 * 0 + _ ≤ _; exact Nat.le_of_eq rfl) (hb hby at_7) (fun _ _ => ⟨rfl, rfl, (by decide : 1 + 1 ≤ _), (by decide : 1 + 1 ≤ _)⟩)
  dsimp only [Pt.U, Pt.locs, Pt.cells, Pt.slots] at X3 l3 y3 z3 st3 hQ3
  subst l3 y3 z3
  obtain ⟨av3, rfl, N3q, Ev3⟩ := hQ3
  have N3 := Fr.app N1 N3q
  have c4 := c2.ext Ev3
  obtain ⟨_, _, ⟨T5, L5, k5, n5⟩, -, X5, ⟨Lc5, hQ5, l5, y5, z5⟩, st5⟩ := Jvm.LawKit.callS X3 hx (y := nm_1) hown (mvT hZ (ow hw 0 rfl)) (mvT hZ (ow hw 1 rfl)) (mvT hZ (ow hw 2 rfl)) (mvT hZ (ow hw 3 rfl)) (by decide) (backOf (W := 0) (rm1 l Z a0 hw [] p3 cb T3.heap n0 (Nat.le_trans (Nat.le_trans Z0 Ev1.1) Ev3.1) c4 SHZ SCZ LC) hZ (ow hw 3 rfl) (ow hw 2 rfl) (by decide) (by decide)) (g := (mkF m 13 #[.val (.int p1), .val (.int p2), .val (.int p3), .val (.int p4), .val (.ref av1), .val (.ref av3), .unset, .unset, .unset, .unset, .unset, .unset, .unset] [(.int p3)])) rfl (by rw [hml]; rfl) (argsL := [(.int p3)]) (rest := []) (lenOf pd_0 rfl) rfl (by show 2 * 0 + _ ≤ _; exact Nat.le_of_eq rfl) (hb hby at_13) (fun _ _ => ⟨rfl, rfl, (by decide : 2 + 1 ≤ _), (by decide : 2 + 1 ≤ _)⟩)
  dsimp only [Pt.U, Pt.locs, Pt.cells, Pt.slots] at X5 l5 y5 z5 st5 hQ5
  subst l5 y5 z5
  obtain ⟨av5, rfl, N5q, Ev5⟩ := hQ5
  have N5 := Fr.app N3 N5q
  obtain ⟨T6, h6, X6, e6, E6, A6, D6, -, st6⟩ := newO X5 hx hZ hown (ow hw 7 rfl) (ow hw 8 rfl) (ow hw 9 rfl) rfl (g := (mkF m 18 #[.val (.int p1), .val (.int p2), .val (.int p3), .val (.int p4), .val (.ref av1), .val (.ref av3), .val (.ref av5), .unset, .unset, .unset, .unset, .unset, .unset] [])) rfl (hb hby at_18) (by decide) (by decide)
  obtain ⟨b6, g_b6⟩ : ∃ z, z = T5.heap.size := ⟨_, rfl⟩
  rw [← g_b6] at A6 D6 st6
  have g0_b6 : n0 ≤ b6 := Nat.le_trans (Nat.le_trans (Nat.le_trans (Nat.le_trans Z0 Ev1.1) Ev3.1) Ev5.1) (Nat.le_of_eq g_b6.symm)
  have sz_b6 : h0.size ≤ b6 := Nat.le_trans (Nat.le_trans (Nat.le_trans (Nat.le_trans (Nat.le_refl _) Ev1.1) Ev3.1) Ev5.1) (Nat.le_of_eq g_b6.symm)
  have F_node_b6 : Fld Z h6 b6 "com/example/framelatch/framelatch/Tree$Place" "node" "Ljava/lang/Object;" .null := D6 (Or.inr (ow hw 17 rfl)) (ty := (.object "java/lang/Object")) (by decide)
  have F_top_b6 : Fld Z h6 b6 "com/example/framelatch/framelatch/Tree$Place" "top" "Ljava/lang/Object;" .null := D6 (Or.inl (ow hw 19 rfl)) (ty := (.object "java/lang/Object")) (by decide)
  have F_parent_b6 : Fld Z h6 b6 "com/example/framelatch/framelatch/Tree$Place" "parent" "Lcom/example/framelatch/framelatch/Tree$Place;" .null := D6 (Or.inl (ow hw 27 rfl)) (ty := (.object "com/example/framelatch/framelatch/Tree$Place")) (by decide)
  have F_link_b6 : Fld Z h6 b6 "com/example/framelatch/framelatch/Tree$Place" "link" "Lcom/example/framelatch/framelatch/Tree$Place;" .null := D6 (Or.inl (ow hw 33 rfl)) (ty := (.object "com/example/framelatch/framelatch/Tree$Place")) (by decide)
  have F_rank_b6 : Fld Z h6 b6 "com/example/framelatch/framelatch/Tree$Place" "rank" "I" (.int (0 : Int32)) := D6 (Or.inl (ow hw 35 rfl)) (ty := .int) (by decide)
  obtain ⟨_, _, ⟨T7, L7, k7, n7⟩, -, X7, ⟨Lc7, hQ7, l7, y7, z7⟩, st7⟩ := X6.specialBack hx (y := nm_2) rfl hown (mvT hZ (ow hw 10 rfl)) (mvT hZ (ow hw 11 rfl)) (mvT hZ (ow hw 12 rfl)) (by decide) (backOf (W := 1) (rm2 l Z a0 hw [] b6 av1 h6 n0 (Nat.le_trans (Nat.le_trans (Nat.le_trans (Nat.le_trans Z0 Ev1.1) Ev3.1) Ev5.1) E6.1) g0_b6 ⟨A6, F_node_b6, F_top_b6, F_parent_b6, F_link_b6, F_rank_b6⟩) hZ (ow hw 12 rfl) (ow hw 9 rfl) (by decide) (by decide)) (g := (mkF m 24 #[.val (.int p1), .val (.int p2), .val (.int p3), .val (.int p4), .val (.ref av1), .val (.ref av3), .val (.ref av5), .unset, .unset, .unset, .unset, .unset, .unset] [(.ref av1), (.ref b6), (.ref b6)])) rfl (by rw [hml]; rfl) (Steps.refl _) (a := b6) (argsL := [(.ref av1)]) (rest := [(.ref b6)]) (lenOf pd_1 rfl) rfl (by show 2 * 0 + _ ≤ _; exact Nat.le_of_eq rfl) (hb hby at_24) (fun _ _ => ⟨rfl, e6, (by decide : 4 + 0 ≤ _), (by decide : 8 + 0 ≤ _)⟩)
  dsimp only [Pt.U, Pt.locs, Pt.cells, Pt.slots] at X7 l7 y7 z7 st7 hQ7
  subst l7 y7 z7
  obtain ⟨rfl, N7q, K7, PB7⟩ := hQ7
  have N7 := Fr.app N5 N7q
  obtain ⟨Epl8, Fapl8, Fbpl8, Fcpl8, Fdpl8, Fepl8⟩ := PB7
  obtain ⟨T9, h9, X9, e9, E9, A9, D9, -, st9⟩ := newO X7 hx hZ hown (ow hw 7 rfl) (ow hw 8 rfl) (ow hw 9 rfl) rfl (g := (mkF m 29 #[.val (.int p1), .val (.int p2), .val (.int p3), .val (.int p4), .val (.ref av1), .val (.ref av3), .val (.ref av5), .val (.ref b6), .unset, .unset, .unset, .unset, .unset] [])) rfl (hb hby at_29) (by decide) (by decide)
  obtain ⟨b9, g_b9⟩ : ∃ z, z = T7.heap.size := ⟨_, rfl⟩
  rw [← g_b9] at A9 D9 st9
  have g0_b9 : n0 ≤ b9 := Nat.le_trans (Nat.le_trans (Nat.le_trans (Nat.le_trans (Nat.le_trans (Nat.le_trans Z0 Ev1.1) Ev3.1) Ev5.1) E6.1) K7.1) (Nat.le_of_eq g_b9.symm)
  have sz_b9 : h0.size ≤ b9 := Nat.le_trans (Nat.le_trans (Nat.le_trans (Nat.le_trans (Nat.le_trans (Nat.le_trans (Nat.le_refl _) Ev1.1) Ev3.1) Ev5.1) E6.1) K7.1) (Nat.le_of_eq g_b9.symm)
  have ne_b6_b9 : b6 ≠ b9 := Nat.ne_of_lt (Nat.lt_of_lt_of_le Epl8.lt (Nat.le_of_eq g_b9.symm))
  have F_node_b9 : Fld Z h9 b9 "com/example/framelatch/framelatch/Tree$Place" "node" "Ljava/lang/Object;" .null := D9 (Or.inr (ow hw 17 rfl)) (ty := (.object "java/lang/Object")) (by decide)
  have F_top_b9 : Fld Z h9 b9 "com/example/framelatch/framelatch/Tree$Place" "top" "Ljava/lang/Object;" .null := D9 (Or.inl (ow hw 19 rfl)) (ty := (.object "java/lang/Object")) (by decide)
  have F_parent_b9 : Fld Z h9 b9 "com/example/framelatch/framelatch/Tree$Place" "parent" "Lcom/example/framelatch/framelatch/Tree$Place;" .null := D9 (Or.inl (ow hw 27 rfl)) (ty := (.object "com/example/framelatch/framelatch/Tree$Place")) (by decide)
  have F_link_b9 : Fld Z h9 b9 "com/example/framelatch/framelatch/Tree$Place" "link" "Lcom/example/framelatch/framelatch/Tree$Place;" .null := D9 (Or.inl (ow hw 33 rfl)) (ty := (.object "com/example/framelatch/framelatch/Tree$Place")) (by decide)
  have F_rank_b9 : Fld Z h9 b9 "com/example/framelatch/framelatch/Tree$Place" "rank" "I" (.int (0 : Int32)) := D9 (Or.inl (ow hw 35 rfl)) (ty := .int) (by decide)
  obtain ⟨_, _, ⟨T10, L10, k10, n10⟩, -, X10, ⟨Lc10, hQ10, l10, y10, z10⟩, st10⟩ := X9.specialBack hx (y := nm_2) rfl hown (mvT hZ (ow hw 10 rfl)) (mvT hZ (ow hw 11 rfl)) (mvT hZ (ow hw 12 rfl)) (by decide) (backOf (W := 1) (rm2 l Z a0 hw [] b9 av3 h9 n0 (Nat.le_trans (Nat.le_trans (Nat.le_trans (Nat.le_trans (Nat.le_trans (Nat.le_trans Z0 Ev1.1) Ev3.1) Ev5.1) E6.1) K7.1) E9.1) g0_b9 ⟨A9, F_node_b9, F_top_b9, F_parent_b9, F_link_b9, F_rank_b9⟩) hZ (ow hw 12 rfl) (ow hw 9 rfl) (by decide) (by decide)) (g := (mkF m 35 #[.val (.int p1), .val (.int p2), .val (.int p3), .val (.int p4), .val (.ref av1), .val (.ref av3), .val (.ref av5), .val (.ref b6), .unset, .unset, .unset, .unset, .unset] [(.ref av3), (.ref b9), (.ref b9)])) rfl (by rw [hml]; rfl) (Steps.refl _) (a := b9) (argsL := [(.ref av3)]) (rest := [(.ref b9)]) (lenOf pd_1 rfl) rfl (by show 2 * 0 + _ ≤ _; exact Nat.le_of_eq rfl) (hb hby at_35) (fun _ _ => ⟨rfl, e9, (by decide : 5 + 0 ≤ _), (by decide : 13 + 0 ≤ _)⟩)
  dsimp only [Pt.U, Pt.locs, Pt.cells, Pt.slots] at X10 l10 y10 z10 st10 hQ10
  subst l10 y10 z10
  obtain ⟨rfl, N10q, K10, PB10⟩ := hQ10
  have N10 := Fr.app N7 N10q
  obtain ⟨Epl11, Fapl11, Fbpl11, Fcpl11, Fdpl11, Fepl11⟩ := PB10
  obtain ⟨T12, h12, X12, e12, E12, A12, D12, -, st12⟩ := newO X10 hx hZ hown (ow hw 7 rfl) (ow hw 8 rfl) (ow hw 9 rfl) rfl (g := (mkF m 40 #[.val (.int p1), .val (.int p2), .val (.int p3), .val (.int p4), .val (.ref av1), .val (.ref av3), .val (.ref av5), .val (.ref b6), .val (.ref b9), .unset, .unset, .unset, .unset] [])) rfl (hb hby at_40) (by decide) (by decide)
  obtain ⟨b12, g_b12⟩ : ∃ z, z = T10.heap.size := ⟨_, rfl⟩
  rw [← g_b12] at A12 D12 st12
  have g0_b12 : n0 ≤ b12 := Nat.le_trans (Nat.le_trans (Nat.le_trans (Nat.le_trans (Nat.le_trans (Nat.le_trans (Nat.le_trans (Nat.le_trans Z0 Ev1.1) Ev3.1) Ev5.1) E6.1) K7.1) E9.1) K10.1) (Nat.le_of_eq g_b12.symm)
  have sz_b12 : h0.size ≤ b12 := Nat.le_trans (Nat.le_trans (Nat.le_trans (Nat.le_trans (Nat.le_trans (Nat.le_trans (Nat.le_trans (Nat.le_trans (Nat.le_refl _) Ev1.1) Ev3.1) Ev5.1) E6.1) K7.1) E9.1) K10.1) (Nat.le_of_eq g_b12.symm)
  have c13 := Epl8.ext E9
  have c14 := c13.keep K10
  have ne_b6_b12 : b6 ≠ b12 := Nat.ne_of_lt (Nat.lt_of_lt_of_le c14.lt (Nat.le_of_eq g_b12.symm))
  have ne_b9_b12 : b9 ≠ b12 := Nat.ne_of_lt (Nat.lt_of_lt_of_le Epl11.lt (Nat.le_of_eq g_b12.symm))
  have F_node_b12 : Fld Z h12 b12 "com/example/framelatch/framelatch/Tree$Place" "node" "Ljava/lang/Object;" .null := D12 (Or.inr (ow hw 17 rfl)) (ty := (.object "java/lang/Object")) (by decide)
  have F_top_b12 : Fld Z h12 b12 "com/example/framelatch/framelatch/Tree$Place" "top" "Ljava/lang/Object;" .null := D12 (Or.inl (ow hw 19 rfl)) (ty := (.object "java/lang/Object")) (by decide)
  have F_parent_b12 : Fld Z h12 b12 "com/example/framelatch/framelatch/Tree$Place" "parent" "Lcom/example/framelatch/framelatch/Tree$Place;" .null := D12 (Or.inl (ow hw 27 rfl)) (ty := (.object "com/example/framelatch/framelatch/Tree$Place")) (by decide)
  have F_link_b12 : Fld Z h12 b12 "com/example/framelatch/framelatch/Tree$Place" "link" "Lcom/example/framelatch/framelatch/Tree$Place;" .null := D12 (Or.inl (ow hw 33 rfl)) (ty := (.object "com/example/framelatch/framelatch/Tree$Place")) (by decide)
  have F_rank_b12 : Fld Z h12 b12 "com/example/framelatch/framelatch/Tree$Place" "rank" "I" (.int (0 : Int32)) := D12 (Or.inl (ow hw 35 rfl)) (ty := .int) (by decide)
  obtain ⟨_, _, ⟨T15, L15, k15, n15⟩, -, X15, ⟨Lc15, hQ15, l15, y15, z15⟩, st15⟩ := X12.specialBack hx (y := nm_2) rfl hown (mvT hZ (ow hw 10 rfl)) (mvT hZ (ow hw 11 rfl)) (mvT hZ (ow hw 12 rfl)) (by decide) (backOf (W := 1) (rm2 l Z a0 hw [] b12 av5 h12 n0 (Nat.le_trans (Nat.le_trans (Nat.le_trans (Nat.le_trans (Nat.le_trans (Nat.le_trans (Nat.le_trans (Nat.le_trans Z0 Ev1.1) Ev3.1) Ev5.1) E6.1) K7.1) E9.1) K10.1) E12.1) g0_b12 ⟨A12, F_node_b12, F_top_b12, F_parent_b12, F_link_b12, F_rank_b12⟩) hZ (ow hw 12 rfl) (ow hw 9 rfl) (by decide) (by decide)) (g := (mkF m 46 #[.val (.int p1), .val (.int p2), .val (.int p3), .val (.int p4), .val (.ref av1), .val (.ref av3), .val (.ref av5), .val (.ref b6), .val (.ref b9), .unset, .unset, .unset, .unset] [(.ref av5), (.ref b12), (.ref b12)])) rfl (by rw [hml]; rfl) (Steps.refl _) (a := b12) (argsL := [(.ref av5)]) (rest := [(.ref b12)]) (lenOf pd_1 rfl) rfl (by show 2 * 0 + _ ≤ _; exact Nat.le_of_eq rfl) (hb hby at_46) (fun _ _ => ⟨rfl, e12, (by decide : 6 + 0 ≤ _), (by decide : 18 + 0 ≤ _)⟩)
  dsimp only [Pt.U, Pt.locs, Pt.cells, Pt.slots] at X15 l15 y15 z15 st15 hQ15
  subst l15 y15 z15
  obtain ⟨rfl, N15q, K15, PB15⟩ := hQ15
  have N15 := Fr.app N10 N15q
  obtain ⟨Epl16, Fapl16, Fbpl16, Fcpl16, Fdpl16, Fepl16⟩ := PB15
  have c17 := Fcpl8.ext E9
  have c18 := c17.keep K10 (ninS ne_b6_b9 nin0)
  have c19 := c18.ext E12
  have c20 := c19.keep K15 (ninS ne_b6_b12 nin0)
  have c22 := c14.ext E12
  have c23 := c22.keep K15
  obtain ⟨cq21, kq21, q21a, q21b, q21c⟩ := isOf hZ rfl c23
  obtain ⟨_, _, ⟨T21, L21, k21, n21⟩, -, X21, ⟨Lc21, hQ21, l21, y21, z21⟩, st21⟩ := X15.virtualBack hx (y := nm_6) (z := nm_6) hown (mvT hZ (ow hw 36 rfl)) (mvT hZ (ow hw 37 rfl)) (notFace_of_selects (args := #[]) (mvT hZ (ow hw 39 rfl))) (mvT hZ (ow hw 39 rfl)) (mvT hZ (ow hw 38 rfl)) (by decide) (backOf (W := 0) (rm6_N l Z a0 hw [] b6 T15.heap n0 (Nat.le_trans (Nat.le_trans (Nat.le_trans (Nat.le_trans (Nat.le_trans (Nat.le_trans (Nat.le_trans (Nat.le_trans (Nat.le_trans Z0 Ev1.1) Ev3.1) Ev5.1) E6.1) K7.1) E9.1) K10.1) E12.1) K15.1) c20) hZ (ow hw 40 rfl) (ow hw 9 rfl) (by decide) (by decide)) q21a q21c (g := (mkF m 177 #[.val (.int p1), .val (.int p2), .val (.int p3), .val (.int p4), .val (.ref av1), .val (.ref av3), .val (.ref av5), .val (.ref b6), .val (.ref b9), .val (.ref b12), .val (.int ((p4 &&& (2147483647 : Int32)) % (5 : Int32))), .val .null, .val .null] [(.ref b6)])) rfl (by rw [hml]; rfl) (Steps.refl _) (argsL := []) (rest := []) (lenOf pd_5 rfl) rfl (by show 2 * 0 + _ ≤ _; exact Nat.le_of_eq rfl) (hb hby at_177) (fun _ _ => ⟨rfl, rfl, (by decide : 6 + 0 ≤ _), (by decide : 18 + 0 ≤ _)⟩)
  dsimp only [Pt.U, Pt.locs, Pt.cells, Pt.slots] at X21 l21 y21 z21 st21 hQ21
  subst l21 y21 z21
  obtain ⟨rfl, N21q, e21⟩ := hQ21
  have N21 := Fr.app N15 N21q
  have c24 := Fcpl11.ext E12
  have c25 := c24.keep K15 (ninS ne_b9_b12 nin0)
  have c27 := Epl11.ext E12
  have c28 := c27.keep K15
  obtain ⟨cq26, kq26, q26a, q26b, q26c⟩ := isOf hZ e21 c28
  obtain ⟨_, _, ⟨T26, L26, k26, n26⟩, -, X26, ⟨Lc26, hQ26, l26, y26, z26⟩, st26⟩ := X21.virtualBack hx (y := nm_6) (z := nm_6) hown (mvT hZ (ow hw 36 rfl)) (mvT hZ (ow hw 37 rfl)) (notFace_of_selects (args := #[]) (mvT hZ (ow hw 39 rfl))) (mvT hZ (ow hw 39 rfl)) (mvT hZ (ow hw 38 rfl)) (by decide) (backOf (W := 0) (rm6_N l Z a0 hw [] b9 T15.heap n0 (Nat.le_trans (Nat.le_trans (Nat.le_trans (Nat.le_trans (Nat.le_trans (Nat.le_trans (Nat.le_trans (Nat.le_trans (Nat.le_trans Z0 Ev1.1) Ev3.1) Ev5.1) E6.1) K7.1) E9.1) K10.1) E12.1) K15.1) c25) hZ (ow hw 40 rfl) (ow hw 9 rfl) (by decide) (by decide)) q26a q26c (g := (mkF m 185 #[.val (.int p1), .val (.int p2), .val (.int p3), .val (.int p4), .val (.ref av1), .val (.ref av3), .val (.ref av5), .val (.ref b6), .val (.ref b9), .val (.ref b12), .val (.int ((p4 &&& (2147483647 : Int32)) % (5 : Int32))), .val .null, .val .null] [(.ref b9)])) rfl (by rw [hml]; rfl) (Steps.refl _) (argsL := []) (rest := []) (lenOf pd_5 rfl) rfl (by show 2 * 0 + _ ≤ _; exact Nat.le_of_eq rfl) (hb hby at_185) (fun _ _ => ⟨rfl, e21, (by decide : 6 + 0 ≤ _), (by decide : 18 + 0 ≤ _)⟩)
  dsimp only [Pt.U, Pt.locs, Pt.cells, Pt.slots] at X26 l26 y26 z26 st26 hQ26
  subst l26 y26 z26
  obtain ⟨rfl, N26q, e26⟩ := hQ26
  have N26 := Fr.app N21 N26q
  obtain ⟨cq29, kq29, q29a, q29b, q29c⟩ := isOf hZ e26 Epl16
  obtain ⟨_, _, ⟨T29, L29, k29, n29⟩, -, X29, ⟨Lc29, hQ29, l29, y29, z29⟩, st29⟩ := X26.virtualBack hx (y := nm_6) (z := nm_6) hown (mvT hZ (ow hw 36 rfl)) (mvT hZ (ow hw 37 rfl)) (notFace_of_selects (args := #[]) (mvT hZ (ow hw 39 rfl))) (mvT hZ (ow hw 39 rfl)) (mvT hZ (ow hw 38 rfl)) (by decide) (backOf (W := 0) (rm6_N l Z a0 hw [] b12 T15.heap n0 (Nat.le_trans (Nat.le_trans (Nat.le_trans (Nat.le_trans (Nat.le_trans (Nat.le_trans (Nat.le_trans (Nat.le_trans (Nat.le_trans Z0 Ev1.1) Ev3.1) Ev5.1) E6.1) K7.1) E9.1) K10.1) E12.1) K15.1) Fcpl16) hZ (ow hw 40 rfl) (ow hw 9 rfl) (by decide) (by decide)) q29a q29c (g := (mkF m 195 #[.val (.int p1), .val (.int p2), .val (.int p3), .val (.int p4), .val (.ref av1), .val (.ref av3), .val (.ref av5), .val (.ref b6), .val (.ref b9), .val (.ref b12), .val (.int ((p4 &&& (2147483647 : Int32)) % (5 : Int32))), .val .null, .val .null] [(.ref b12)])) rfl (by rw [hml]; rfl) (Steps.refl _) (argsL := []) (rest := []) (lenOf pd_5 rfl) rfl (by show 2 * 0 + _ ≤ _; exact Nat.le_of_eq rfl) (hb hby at_195) (fun _ _ => ⟨rfl, e26, (by decide : 6 + 0 ≤ _), (by decide : 18 + 0 ≤ _)⟩)
  dsimp only [Pt.U, Pt.locs, Pt.cells, Pt.slots] at X29 l29 y29 z29 st29 hQ29
  subst l29 y29 z29
  obtain ⟨rfl, N29q, e29⟩ := hQ29
  have N29 := Fr.app N26 N29q
  obtain ⟨fs, hr, hrun, hended, hW, hsame⟩ := X29.leave (v := some (.int (1 : Int32))) (fun h => by rw [Bd.returns] at h; cases h)
  refine ⟨_, _, pre0 _ ?_, hrun, hended, _, _, rfl, ?_, ⟨_, rfl⟩, hW, hsame.mono (by decide) (by decide)⟩
  · show Steps p.tables e below (s₁.setTop (mkF m 0 #[.val (.int p1), .val (.int p2), .val (.int p3), .val (.int p4), .unset, .unset, .unset, .unset, .unset, .unset, .unset, .unset, .unset] [])) _
    refine XS.iloadN X0.here hx rfl (hb hby at_0) rfl ?_
    show Steps p.tables e below (s₁.setTop (mkF m 1 #[.val (.int p1), .val (.int p2), .val (.int p3), .val (.int p4), .unset, .unset, .unset, .unset, .unset, .unset, .unset, .unset, .unset] [(.int p1)])) _
    refine st1 _ ?_
    show Steps p.tables e below (T1.setTop (mkF m 4 #[.val (.int p1), .val (.int p2), .val (.int p3), .val (.int p4), .unset, .unset, .unset, .unset, .unset, .unset, .unset, .unset, .unset] [(.ref av1)])) _
    refine XS.astore X1.here hx rfl (hb hby at_4) rfl rfl (l' := #[.val (.int p1), .val (.int p2), .val (.int p3), .val (.int p4), .val (.ref av1), .unset, .unset, .unset, .unset, .unset, .unset, .unset, .unset]) rfl ?_
    show Steps p.tables e below (T1.setTop (mkF m 6 #[.val (.int p1), .val (.int p2), .val (.int p3), .val (.int p4), .val (.ref av1), .unset, .unset, .unset, .unset, .unset, .unset, .unset, .unset] [])) _
    refine XS.iloadN X1.here hx rfl (hb hby at_6) rfl ?_
    show Steps p.tables e below (T1.setTop (mkF m 7 #[.val (.int p1), .val (.int p2), .val (.int p3), .val (.int p4), .val (.ref av1), .unset, .unset, .unset, .unset, .unset, .unset, .unset, .unset] [(.int p2)])) _
    refine st3 _ ?_
    show Steps p.tables e below (T3.setTop (mkF m 10 #[.val (.int p1), .val (.int p2), .val (.int p3), .val (.int p4), .val (.ref av1), .unset, .unset, .unset, .unset, .unset, .unset, .unset, .unset] [(.ref av3)])) _
    refine XS.astore X3.here hx rfl (hb hby at_10) rfl rfl (l' := #[.val (.int p1), .val (.int p2), .val (.int p3), .val (.int p4), .val (.ref av1), .val (.ref av3), .unset, .unset, .unset, .unset, .unset, .unset, .unset]) rfl ?_
    show Steps p.tables e below (T3.setTop (mkF m 12 #[.val (.int p1), .val (.int p2), .val (.int p3), .val (.int p4), .val (.ref av1), .val (.ref av3), .unset, .unset, .unset, .unset, .unset, .unset, .unset] [])) _
    refine XS.iloadN X3.here hx rfl (hb hby at_12) rfl ?_
    show Steps p.tables e below (T3.setTop (mkF m 13 #[.val (.int p1), .val (.int p2), .val (.int p3), .val (.int p4), .val (.ref av1), .val (.ref av3), .unset, .unset, .unset, .unset, .unset, .unset, .unset] [(.int p3)])) _
    refine st5 _ ?_
    show Steps p.tables e below (T5.setTop (mkF m 16 #[.val (.int p1), .val (.int p2), .val (.int p3), .val (.int p4), .val (.ref av1), .val (.ref av3), .unset, .unset, .unset, .unset, .unset, .unset, .unset] [(.ref av5)])) _
    refine XS.astore X5.here hx rfl (hb hby at_16) rfl rfl (l' := #[.val (.int p1), .val (.int p2), .val (.int p3), .val (.int p4), .val (.ref av1), .val (.ref av3), .val (.ref av5), .unset, .unset, .unset, .unset, .unset, .unset]) rfl ?_
    show Steps p.tables e below (T5.setTop (mkF m 18 #[.val (.int p1), .val (.int p2), .val (.int p3), .val (.int p4), .val (.ref av1), .val (.ref av3), .val (.ref av5), .unset, .unset, .unset, .unset, .unset, .unset] [])) _
    refine st6 _ ?_
    show Steps p.tables e below (T6.setTop (mkF m 21 #[.val (.int p1), .val (.int p2), .val (.int p3), .val (.int p4), .val (.ref av1), .val (.ref av3), .val (.ref av5), .unset, .unset, .unset, .unset, .unset, .unset] [(.ref b6)])) _
    refine XS.dup X6.here hx rfl (hb hby at_21) rfl rfl ?_
    show Steps p.tables e below (T6.setTop (mkF m 22 #[.val (.int p1), .val (.int p2), .val (.int p3), .val (.int p4), .val (.ref av1), .val (.ref av3), .val (.ref av5), .unset, .unset, .unset, .unset, .unset, .unset] [(.ref b6), (.ref b6)])) _
    refine XS.aload X6.here hx rfl (hb hby at_22) rfl rfl ?_
    show Steps p.tables e below (T6.setTop (mkF m 24 #[.val (.int p1), .val (.int p2), .val (.int p3), .val (.int p4), .val (.ref av1), .val (.ref av3), .val (.ref av5), .unset, .unset, .unset, .unset, .unset, .unset] [(.ref av1), (.ref b6), (.ref b6)])) _
    refine st7.trans ?_
    show Steps p.tables e below (T7.setTop (mkF m 27 #[.val (.int p1), .val (.int p2), .val (.int p3), .val (.int p4), .val (.ref av1), .val (.ref av3), .val (.ref av5), .unset, .unset, .unset, .unset, .unset, .unset] [(.ref b6)])) _
    refine XS.astore X7.here hx rfl (hb hby at_27) rfl rfl (l' := #[.val (.int p1), .val (.int p2), .val (.int p3), .val (.int p4), .val (.ref av1), .val (.ref av3), .val (.ref av5), .val (.ref b6), .unset, .unset, .unset, .unset, .unset]) rfl ?_
    show Steps p.tables e below (T7.setTop (mkF m 29 #[.val (.int p1), .val (.int p2), .val (.int p3), .val (.int p4), .val (.ref av1), .val (.ref av3), .val (.ref av5), .val (.ref b6), .unset, .unset, .unset, .unset, .unset] [])) _
    refine st9 _ ?_
    show Steps p.tables e below (T9.setTop (mkF m 32 #[.val (.int p1), .val (.int p2), .val (.int p3), .val (.int p4), .val (.ref av1), .val (.ref av3), .val (.ref av5), .val (.ref b6), .unset, .unset, .unset, .unset, .unset] [(.ref b9)])) _
    refine XS.dup X9.here hx rfl (hb hby at_32) rfl rfl ?_
    show Steps p.tables e below (T9.setTop (mkF m 33 #[.val (.int p1), .val (.int p2), .val (.int p3), .val (.int p4), .val (.ref av1), .val (.ref av3), .val (.ref av5), .val (.ref b6), .unset, .unset, .unset, .unset, .unset] [(.ref b9), (.ref b9)])) _
    refine XS.aload X9.here hx rfl (hb hby at_33) rfl rfl ?_
    show Steps p.tables e below (T9.setTop (mkF m 35 #[.val (.int p1), .val (.int p2), .val (.int p3), .val (.int p4), .val (.ref av1), .val (.ref av3), .val (.ref av5), .val (.ref b6), .unset, .unset, .unset, .unset, .unset] [(.ref av3), (.ref b9), (.ref b9)])) _
    refine st10.trans ?_
    show Steps p.tables e below (T10.setTop (mkF m 38 #[.val (.int p1), .val (.int p2), .val (.int p3), .val (.int p4), .val (.ref av1), .val (.ref av3), .val (.ref av5), .val (.ref b6), .unset, .unset, .unset, .unset, .unset] [(.ref b9)])) _
    refine XS.astore X10.here hx rfl (hb hby at_38) rfl rfl (l' := #[.val (.int p1), .val (.int p2), .val (.int p3), .val (.int p4), .val (.ref av1), .val (.ref av3), .val (.ref av5), .val (.ref b6), .val (.ref b9), .unset, .unset, .unset, .unset]) rfl ?_
    show Steps p.tables e below (T10.setTop (mkF m 40 #[.val (.int p1), .val (.int p2), .val (.int p3), .val (.int p4), .val (.ref av1), .val (.ref av3), .val (.ref av5), .val (.ref b6), .val (.ref b9), .unset, .unset, .unset, .unset] [])) _
    refine st12 _ ?_
    show Steps p.tables e below (T12.setTop (mkF m 43 #[.val (.int p1), .val (.int p2), .val (.int p3), .val (.int p4), .val (.ref av1), .val (.ref av3), .val (.ref av5), .val (.ref b6), .val (.ref b9), .unset, .unset, .unset, .unset] [(.ref b12)])) _
    refine XS.dup X12.here hx rfl (hb hby at_43) rfl rfl ?_
    show Steps p.tables e below (T12.setTop (mkF m 44 #[.val (.int p1), .val (.int p2), .val (.int p3), .val (.int p4), .val (.ref av1), .val (.ref av3), .val (.ref av5), .val (.ref b6), .val (.ref b9), .unset, .unset, .unset, .unset] [(.ref b12), (.ref b12)])) _
    refine XS.aload X12.here hx rfl (hb hby at_44) rfl rfl ?_
    show Steps p.tables e below (T12.setTop (mkF m 46 #[.val (.int p1), .val (.int p2), .val (.int p3), .val (.int p4), .val (.ref av1), .val (.ref av3), .val (.ref av5), .val (.ref b6), .val (.ref b9), .unset, .unset, .unset, .unset] [(.ref av5), (.ref b12), (.ref b12)])) _
    refine st15.trans ?_
    show Steps p.tables e below (T15.setTop (mkF m 49 #[.val (.int p1), .val (.int p2), .val (.int p3), .val (.int p4), .val (.ref av1), .val (.ref av3), .val (.ref av5), .val (.ref b6), .val (.ref b9), .unset, .unset, .unset, .unset] [(.ref b12)])) _
    refine XS.astore X15.here hx rfl (hb hby at_49) rfl rfl (l' := #[.val (.int p1), .val (.int p2), .val (.int p3), .val (.int p4), .val (.ref av1), .val (.ref av3), .val (.ref av5), .val (.ref b6), .val (.ref b9), .val (.ref b12), .unset, .unset, .unset]) rfl ?_
    show Steps p.tables e below (T15.setTop (mkF m 51 #[.val (.int p1), .val (.int p2), .val (.int p3), .val (.int p4), .val (.ref av1), .val (.ref av3), .val (.ref av5), .val (.ref b6), .val (.ref b9), .val (.ref b12), .unset, .unset, .unset] [])) _
    refine XS.iloadN X15.here hx rfl (hb hby at_51) rfl ?_
    show Steps p.tables e below (T15.setTop (mkF m 52 #[.val (.int p1), .val (.int p2), .val (.int p3), .val (.int p4), .val (.ref av1), .val (.ref av3), .val (.ref av5), .val (.ref b6), .val (.ref b9), .val (.ref b12), .unset, .unset, .unset] [(.int p4)])) _
    refine X15.ldcInt hx hown (mvT hZ (ow hw 20 rfl)) (g := (mkF m 52 #[.val (.int p1), .val (.int p2), .val (.int p3), .val (.int p4), .val (.ref av1), .val (.ref av3), .val (.ref av5), .val (.ref b6), .val (.ref b9), .val (.ref b12), .unset, .unset, .unset] [(.int p4)])) rfl (hb hby at_52) _ ?_
    show Steps p.tables e below (T15.setTop (mkF m 54 #[.val (.int p1), .val (.int p2), .val (.int p3), .val (.int p4), .val (.ref av1), .val (.ref av3), .val (.ref av5), .val (.ref b6), .val (.ref b9), .val (.ref b12), .unset, .unset, .unset] [(.int (2147483647 : Int32)), (.int p4)])) _
    refine XS.iand X15.here hx rfl (hb hby at_54) rfl ?_
    show Steps p.tables e below (T15.setTop (mkF m 55 #[.val (.int p1), .val (.int p2), .val (.int p3), .val (.int p4), .val (.ref av1), .val (.ref av3), .val (.ref av5), .val (.ref b6), .val (.ref b9), .val (.ref b12), .unset, .unset, .unset] [(.int (p4 &&& (2147483647 : Int32)))])) _
    refine XS.iconst X15.here hx rfl (hb hby at_55) ?_
    show Steps p.tables e below (T15.setTop (mkF m 56 #[.val (.int p1), .val (.int p2), .val (.int p3), .val (.int p4), .val (.ref av1), .val (.ref av3), .val (.ref av5), .val (.ref b6), .val (.ref b9), .val (.ref b12), .unset, .unset, .unset] [(.int (5 : Int32)), (.int (p4 &&& (2147483647 : Int32)))])) _
    refine iremM X15 hx (g := (mkF m 56 #[.val (.int p1), .val (.int p2), .val (.int p3), .val (.int p4), .val (.ref av1), .val (.ref av3), .val (.ref av5), .val (.ref b6), .val (.ref b9), .val (.ref b12), .unset, .unset, .unset] [(.int (5 : Int32)), (.int (p4 &&& (2147483647 : Int32)))])) rfl (hb hby at_56) rfl (by decide) ?_
    show Steps p.tables e below (T15.setTop (mkF m 57 #[.val (.int p1), .val (.int p2), .val (.int p3), .val (.int p4), .val (.ref av1), .val (.ref av3), .val (.ref av5), .val (.ref b6), .val (.ref b9), .val (.ref b12), .unset, .unset, .unset] [(.int ((p4 &&& (2147483647 : Int32)) % (5 : Int32)))])) _
    refine XS.istore X15.here hx rfl (hb hby at_57) rfl (l' := #[.val (.int p1), .val (.int p2), .val (.int p3), .val (.int p4), .val (.ref av1), .val (.ref av3), .val (.ref av5), .val (.ref b6), .val (.ref b9), .val (.ref b12), .val (.int ((p4 &&& (2147483647 : Int32)) % (5 : Int32))), .unset, .unset]) rfl ?_
    show Steps p.tables e below (T15.setTop (mkF m 59 #[.val (.int p1), .val (.int p2), .val (.int p3), .val (.int p4), .val (.ref av1), .val (.ref av3), .val (.ref av5), .val (.ref b6), .val (.ref b9), .val (.ref b12), .val (.int ((p4 &&& (2147483647 : Int32)) % (5 : Int32))), .unset, .unset] [])) _
    refine XS.aconstNull X15.here hx rfl (hb hby at_59) ?_
    show Steps p.tables e below (T15.setTop (mkF m 60 #[.val (.int p1), .val (.int p2), .val (.int p3), .val (.int p4), .val (.ref av1), .val (.ref av3), .val (.ref av5), .val (.ref b6), .val (.ref b9), .val (.ref b12), .val (.int ((p4 &&& (2147483647 : Int32)) % (5 : Int32))), .unset, .unset] [.null])) _
    refine XS.astore X15.here hx rfl (hb hby at_60) rfl rfl (l' := #[.val (.int p1), .val (.int p2), .val (.int p3), .val (.int p4), .val (.ref av1), .val (.ref av3), .val (.ref av5), .val (.ref b6), .val (.ref b9), .val (.ref b12), .val (.int ((p4 &&& (2147483647 : Int32)) % (5 : Int32))), .val .null, .unset]) rfl ?_
    show Steps p.tables e below (T15.setTop (mkF m 62 #[.val (.int p1), .val (.int p2), .val (.int p3), .val (.int p4), .val (.ref av1), .val (.ref av3), .val (.ref av5), .val (.ref b6), .val (.ref b9), .val (.ref b12), .val (.int ((p4 &&& (2147483647 : Int32)) % (5 : Int32))), .val .null, .unset] [])) _
    refine XS.aconstNull X15.here hx rfl (hb hby at_62) ?_
    show Steps p.tables e below (T15.setTop (mkF m 63 #[.val (.int p1), .val (.int p2), .val (.int p3), .val (.int p4), .val (.ref av1), .val (.ref av3), .val (.ref av5), .val (.ref b6), .val (.ref b9), .val (.ref b12), .val (.int ((p4 &&& (2147483647 : Int32)) % (5 : Int32))), .val .null, .unset] [.null])) _
    refine XS.astore X15.here hx rfl (hb hby at_63) rfl rfl (l' := #[.val (.int p1), .val (.int p2), .val (.int p3), .val (.int p4), .val (.ref av1), .val (.ref av3), .val (.ref av5), .val (.ref b6), .val (.ref b9), .val (.ref b12), .val (.int ((p4 &&& (2147483647 : Int32)) % (5 : Int32))), .val .null, .val .null]) rfl ?_
    show Steps p.tables e below (T15.setTop (mkF m 65 #[.val (.int p1), .val (.int p2), .val (.int p3), .val (.int p4), .val (.ref av1), .val (.ref av3), .val (.ref av5), .val (.ref b6), .val (.ref b9), .val (.ref b12), .val (.int ((p4 &&& (2147483647 : Int32)) % (5 : Int32))), .val .null, .val .null] [])) _
    refine XS.iload X15.here hx rfl (hb hby at_65) rfl ?_
    show Steps p.tables e below (T15.setTop (mkF m 67 #[.val (.int p1), .val (.int p2), .val (.int p3), .val (.int p4), .val (.ref av1), .val (.ref av3), .val (.ref av5), .val (.ref b6), .val (.ref b9), .val (.ref b12), .val (.int ((p4 &&& (2147483647 : Int32)) % (5 : Int32))), .val .null, .val .null] [(.int ((p4 &&& (2147483647 : Int32)) % (5 : Int32)))])) _
    refine XS.iconst X15.here hx rfl (hb hby at_67) ?_
    show Steps p.tables e below (T15.setTop (mkF m 68 #[.val (.int p1), .val (.int p2), .val (.int p3), .val (.int p4), .val (.ref av1), .val (.ref av3), .val (.ref av5), .val (.ref b6), .val (.ref b9), .val (.ref b12), .val (.int ((p4 &&& (2147483647 : Int32)) % (5 : Int32))), .val .null, .val .null] [(.int (1 : Int32)), (.int ((p4 &&& (2147483647 : Int32)) % (5 : Int32)))])) _
    refine XS.icmpYes X15.here hx rfl (pc0 := 68) (pc' := 85) rfl (hb hby at_68) rfl (feq hc68).2 (by decide) (by decide) ?_
    show Steps p.tables e below (T15.setTop (mkF m 85 #[.val (.int p1), .val (.int p2), .val (.int p3), .val (.int p4), .val (.ref av1), .val (.ref av3), .val (.ref av5), .val (.ref b6), .val (.ref b9), .val (.ref b12), .val (.int ((p4 &&& (2147483647 : Int32)) % (5 : Int32))), .val .null, .val .null] [])) _
    refine XS.iload X15.here hx rfl (hb hby at_85) rfl ?_
    show Steps p.tables e below (T15.setTop (mkF m 87 #[.val (.int p1), .val (.int p2), .val (.int p3), .val (.int p4), .val (.ref av1), .val (.ref av3), .val (.ref av5), .val (.ref b6), .val (.ref b9), .val (.ref b12), .val (.int ((p4 &&& (2147483647 : Int32)) % (5 : Int32))), .val .null, .val .null] [(.int ((p4 &&& (2147483647 : Int32)) % (5 : Int32)))])) _
    refine XS.iconst X15.here hx rfl (hb hby at_87) ?_
    show Steps p.tables e below (T15.setTop (mkF m 88 #[.val (.int p1), .val (.int p2), .val (.int p3), .val (.int p4), .val (.ref av1), .val (.ref av3), .val (.ref av5), .val (.ref b6), .val (.ref b9), .val (.ref b12), .val (.int ((p4 &&& (2147483647 : Int32)) % (5 : Int32))), .val .null, .val .null] [(.int (2 : Int32)), (.int ((p4 &&& (2147483647 : Int32)) % (5 : Int32)))])) _
    refine XS.icmpYes X15.here hx rfl (pc0 := 88) (pc' := 116) rfl (hb hby at_88) rfl (feq hc88).2 (by decide) (by decide) ?_
    show Steps p.tables e below (T15.setTop (mkF m 116 #[.val (.int p1), .val (.int p2), .val (.int p3), .val (.int p4), .val (.ref av1), .val (.ref av3), .val (.ref av5), .val (.ref b6), .val (.ref b9), .val (.ref b12), .val (.int ((p4 &&& (2147483647 : Int32)) % (5 : Int32))), .val .null, .val .null] [])) _
    refine XS.iload X15.here hx rfl (hb hby at_116) rfl ?_
    show Steps p.tables e below (T15.setTop (mkF m 118 #[.val (.int p1), .val (.int p2), .val (.int p3), .val (.int p4), .val (.ref av1), .val (.ref av3), .val (.ref av5), .val (.ref b6), .val (.ref b9), .val (.ref b12), .val (.int ((p4 &&& (2147483647 : Int32)) % (5 : Int32))), .val .null, .val .null] [(.int ((p4 &&& (2147483647 : Int32)) % (5 : Int32)))])) _
    refine XS.iconst X15.here hx rfl (hb hby at_118) ?_
    show Steps p.tables e below (T15.setTop (mkF m 119 #[.val (.int p1), .val (.int p2), .val (.int p3), .val (.int p4), .val (.ref av1), .val (.ref av3), .val (.ref av5), .val (.ref b6), .val (.ref b9), .val (.ref b12), .val (.int ((p4 &&& (2147483647 : Int32)) % (5 : Int32))), .val .null, .val .null] [(.int (3 : Int32)), (.int ((p4 &&& (2147483647 : Int32)) % (5 : Int32)))])) _
    refine XS.icmpYes X15.here hx rfl (pc0 := 119) (pc' := 147) rfl (hb hby at_119) rfl (feq hc119).2 (by decide) (by decide) ?_
    show Steps p.tables e below (T15.setTop (mkF m 147 #[.val (.int p1), .val (.int p2), .val (.int p3), .val (.int p4), .val (.ref av1), .val (.ref av3), .val (.ref av5), .val (.ref b6), .val (.ref b9), .val (.ref b12), .val (.int ((p4 &&& (2147483647 : Int32)) % (5 : Int32))), .val .null, .val .null] [])) _
    refine XS.iload X15.here hx rfl (hb hby at_147) rfl ?_
    show Steps p.tables e below (T15.setTop (mkF m 149 #[.val (.int p1), .val (.int p2), .val (.int p3), .val (.int p4), .val (.ref av1), .val (.ref av3), .val (.ref av5), .val (.ref b6), .val (.ref b9), .val (.ref b12), .val (.int ((p4 &&& (2147483647 : Int32)) % (5 : Int32))), .val .null, .val .null] [(.int ((p4 &&& (2147483647 : Int32)) % (5 : Int32)))])) _
    refine XS.iconst X15.here hx rfl (hb hby at_149) ?_
    show Steps p.tables e below (T15.setTop (mkF m 150 #[.val (.int p1), .val (.int p2), .val (.int p3), .val (.int p4), .val (.ref av1), .val (.ref av3), .val (.ref av5), .val (.ref b6), .val (.ref b9), .val (.ref b12), .val (.int ((p4 &&& (2147483647 : Int32)) % (5 : Int32))), .val .null, .val .null] [(.int (4 : Int32)), (.int ((p4 &&& (2147483647 : Int32)) % (5 : Int32)))])) _
    refine XS.icmpYes X15.here hx rfl (pc0 := 150) (pc' := 175) rfl (hb hby at_150) rfl (feq hc150).2 (by decide) (by decide) ?_
    show Steps p.tables e below (T15.setTop (mkF m 175 #[.val (.int p1), .val (.int p2), .val (.int p3), .val (.int p4), .val (.ref av1), .val (.ref av3), .val (.ref av5), .val (.ref b6), .val (.ref b9), .val (.ref b12), .val (.int ((p4 &&& (2147483647 : Int32)) % (5 : Int32))), .val .null, .val .null] [])) _
    refine XS.aload X15.here hx rfl (hb hby at_175) rfl rfl ?_
    show Steps p.tables e below (T15.setTop (mkF m 177 #[.val (.int p1), .val (.int p2), .val (.int p3), .val (.int p4), .val (.ref av1), .val (.ref av3), .val (.ref av5), .val (.ref b6), .val (.ref b9), .val (.ref b12), .val (.int ((p4 &&& (2147483647 : Int32)) % (5 : Int32))), .val .null, .val .null] [(.ref b6)])) _
    refine st21.trans ?_
    show Steps p.tables e below (T21.setTop (mkF m 180 #[.val (.int p1), .val (.int p2), .val (.int p3), .val (.int p4), .val (.ref av1), .val (.ref av3), .val (.ref av5), .val (.ref b6), .val (.ref b9), .val (.ref b12), .val (.int ((p4 &&& (2147483647 : Int32)) % (5 : Int32))), .val .null, .val .null] [.null])) _
    refine XS.ifnonnullNo X21.here hx rfl (hb hby at_180) rfl ?_
    show Steps p.tables e below (T21.setTop (mkF m 183 #[.val (.int p1), .val (.int p2), .val (.int p3), .val (.int p4), .val (.ref av1), .val (.ref av3), .val (.ref av5), .val (.ref b6), .val (.ref b9), .val (.ref b12), .val (.int ((p4 &&& (2147483647 : Int32)) % (5 : Int32))), .val .null, .val .null] [])) _
    refine XS.aload X21.here hx rfl (hb hby at_183) rfl rfl ?_
    show Steps p.tables e below (T21.setTop (mkF m 185 #[.val (.int p1), .val (.int p2), .val (.int p3), .val (.int p4), .val (.ref av1), .val (.ref av3), .val (.ref av5), .val (.ref b6), .val (.ref b9), .val (.ref b12), .val (.int ((p4 &&& (2147483647 : Int32)) % (5 : Int32))), .val .null, .val .null] [(.ref b9)])) _
    refine st26.trans ?_
    show Steps p.tables e below (T26.setTop (mkF m 188 #[.val (.int p1), .val (.int p2), .val (.int p3), .val (.int p4), .val (.ref av1), .val (.ref av3), .val (.ref av5), .val (.ref b6), .val (.ref b9), .val (.ref b12), .val (.int ((p4 &&& (2147483647 : Int32)) % (5 : Int32))), .val .null, .val .null] [.null])) _
    refine XS.aload X26.here hx rfl (hb hby at_188) rfl rfl ?_
    show Steps p.tables e below (T26.setTop (mkF m 190 #[.val (.int p1), .val (.int p2), .val (.int p3), .val (.int p4), .val (.ref av1), .val (.ref av3), .val (.ref av5), .val (.ref b6), .val (.ref b9), .val (.ref b12), .val (.int ((p4 &&& (2147483647 : Int32)) % (5 : Int32))), .val .null, .val .null] [.null, .null])) _
    refine Jvm.RoadKit.acmp (g := (mkF m 190 #[.val (.int p1), .val (.int p2), .val (.int p3), .val (.int p4), .val (.ref av1), .val (.ref av3), .val (.ref av5), .val (.ref b6), .val (.ref b9), .val (.ref b12), .val (.int ((p4 &&& (2147483647 : Int32)) % (5 : Int32))), .val .null, .val .null] [.null, .null])) X26 hx rfl rfl rfl (pc0 := 190) (pc' := 193) (same := true) rfl (hb hby at_190) rfl (decide_eq_true rfl) (by decide) (by decide) ?_
    show Steps p.tables e below (T26.setTop (mkF m 193 #[.val (.int p1), .val (.int p2), .val (.int p3), .val (.int p4), .val (.ref av1), .val (.ref av3), .val (.ref av5), .val (.ref b6), .val (.ref b9), .val (.ref b12), .val (.int ((p4 &&& (2147483647 : Int32)) % (5 : Int32))), .val .null, .val .null] [])) _
    refine XS.aload X26.here hx rfl (hb hby at_193) rfl rfl ?_
    show Steps p.tables e below (T26.setTop (mkF m 195 #[.val (.int p1), .val (.int p2), .val (.int p3), .val (.int p4), .val (.ref av1), .val (.ref av3), .val (.ref av5), .val (.ref b6), .val (.ref b9), .val (.ref b12), .val (.int ((p4 &&& (2147483647 : Int32)) % (5 : Int32))), .val .null, .val .null] [(.ref b12)])) _
    refine st29.trans ?_
    show Steps p.tables e below (T29.setTop (mkF m 198 #[.val (.int p1), .val (.int p2), .val (.int p3), .val (.int p4), .val (.ref av1), .val (.ref av3), .val (.ref av5), .val (.ref b6), .val (.ref b9), .val (.ref b12), .val (.int ((p4 &&& (2147483647 : Int32)) % (5 : Int32))), .val .null, .val .null] [.null])) _
    refine XS.aload X29.here hx rfl (hb hby at_198) rfl rfl ?_
    show Steps p.tables e below (T29.setTop (mkF m 200 #[.val (.int p1), .val (.int p2), .val (.int p3), .val (.int p4), .val (.ref av1), .val (.ref av3), .val (.ref av5), .val (.ref b6), .val (.ref b9), .val (.ref b12), .val (.int ((p4 &&& (2147483647 : Int32)) % (5 : Int32))), .val .null, .val .null] [.null, .null])) _
    refine Jvm.RoadKit.acmp (g := (mkF m 200 #[.val (.int p1), .val (.int p2), .val (.int p3), .val (.int p4), .val (.ref av1), .val (.ref av3), .val (.ref av5), .val (.ref b6), .val (.ref b9), .val (.ref b12), .val (.int ((p4 &&& (2147483647 : Int32)) % (5 : Int32))), .val .null, .val .null] [.null, .null])) X29 hx rfl rfl rfl (pc0 := 200) (pc' := 203) (same := true) rfl (hb hby at_200) rfl (decide_eq_true rfl) (by decide) (by decide) ?_
    show Steps p.tables e below (T29.setTop (mkF m 203 #[.val (.int p1), .val (.int p2), .val (.int p3), .val (.int p4), .val (.ref av1), .val (.ref av3), .val (.ref av5), .val (.ref b6), .val (.ref b9), .val (.ref b12), .val (.int ((p4 &&& (2147483647 : Int32)) % (5 : Int32))), .val .null, .val .null] [])) _
    refine XS.iconst X29.here hx rfl (hb hby at_203) ?_
    show Steps p.tables e below (T29.setTop (mkF m 204 #[.val (.int p1), .val (.int p2), .val (.int p3), .val (.int p4), .val (.ref av1), .val (.ref av3), .val (.ref av5), .val (.ref b6), .val (.ref b9), .val (.ref b12), .val (.int ((p4 &&& (2147483647 : Int32)) % (5 : Int32))), .val .null, .val .null] [(.int (1 : Int32))])) _
    refine XS.goto X29.here hx rfl (pc0 := 204) (pc' := 208) rfl (hb hby at_204) (by decide) (by decide) ?_
    show Steps p.tables e below (T29.setTop (mkF m 208 #[.val (.int p1), .val (.int p2), .val (.int p3), .val (.int p4), .val (.ref av1), .val (.ref av3), .val (.ref av5), .val (.ref b6), .val (.ref b9), .val (.ref b12), .val (.int ((p4 &&& (2147483647 : Int32)) % (5 : Int32))), .val .null, .val .null] [(.int (1 : Int32))])) _
    exact retN X29 hx (t := .boolean) Bd.returns (by simp) (hb hby at_208) hr
  · show QF h0 n0 _ T29.heap _
    rw [e29]
    exact ⟨rfl, N29⟩
theorem pd_3 : parseMethodDescriptor "(Lcom/example/framelatch/framelatch/Tree$Place;)V" = some ⟨[(.object "com/example/framelatch/framelatch/Tree$Place")], none⟩ := by decide +kernel
set_option maxRecDepth 65536 in
set_option maxHeartbeats 40000000 in
theorem rm0_1 (l : Launch) (Z : State) (a0 : Array Value) (hw : ∀ d ∈ tables_1, d.before a0 Z = true) (ws : List Jvm.Cond) (p1 : Int32) (p2 : Int32) (p3 : Int32) (p4 : Int32) (cb : Addr) (h0 : Heap) (n0 : Nat) (Z0 : n0 ≤ h0.size) (O0 : Old Z n0 h0) (SHZ : Sta Z Z.heap "java/lang/Integer$IntegerCache" "high" "I" (.int (127 : Int32))) (SCZ : Sta Z Z.heap "java/lang/Integer$IntegerCache" "cache" "[Ljava/lang/Integer;" (.ref cb)) (LC : ICache Z cb) (hc68 : ((p4 &&& (2147483647 : Int32)) % (5 : Int32)) = (1 : Int32)) :
    MetFree l x (head1 (Jvm.Cond.code x code maxLocals ret :: ws) room_1) (fun aa U => aa = #[(.int p1), (.int p2), (.int p3), (.int p4)] ∧ Z.Warmed39 U.vm ∧ U.heap = h0) (fun _ _ _ _ _ => True) (fun _ U o U' => ∃ v L, o = .returned v ∧ QF h0 n0 v U'.heap L ∧ FrameEnd U o U' L room_1.cells room_1.slots) := by
  refine MetFree.of_bodySF (plainFor_of_name pn_com_example_framelatch_framelatch_PlaceParentPinLaw) hisR ?_
  intro p e s m args below meth c s₁ Bd hml0 hP hK
  obtain ⟨rfl, hZ, hh⟩ := hP
  have hx := Bd.exec
  have hby := Bd.bytes
  have hml : c.maxLocals = 13 := hml0
  have hown : s.vm.findClass "com/example/framelatch/framelatch/PlaceParentPinLaw" = some m.cls := findClass_of_methodNamed Bd.named
  have hnm := (name_of_methodNamed Bd.named Bd.method).1
  have X0 : Stand p l e room_1 s m #[(.int p1), (.int p2), (.int p3), (.int p4)] below meth c s₁ [] 0 0 := Stand.of_body Bd
  have e0 : s₁.heap = h0 := by rw [← hh, Bd.state]; rfl
  have N0 := Fr.nil n0
  have pre0 : ∀ t, Steps p.tables e below (s₁.setTop (mkF m 0 #[.val (.int p1), .val (.int p2), .val (.int p3), .val (.int p4), .unset, .unset, .unset, .unset, .unset, .unset, .unset, .unset, .unset] [])) t → Steps p.tables e below (s₁.setTop (entryFrame m #[(.int p1), (.int p2), (.int p3), (.int p4)] maxLocals)) t := fun t k => castTop (ef_0 m p1 p2 p3 p4) k
  obtain ⟨_, _, ⟨T1, L1, k1, n1⟩, -, X1, ⟨Lc1, hQ1, l1, y1, z1⟩, st1⟩ := Jvm.LawKit.callS X0 hx (y := nm_1) hown (mvT hZ (ow hw 0 rfl)) (mvT hZ (ow hw 1 rfl)) (mvT hZ (ow hw 2 rfl)) (mvT hZ (ow hw 3 rfl)) (by decide) (backOf (W := 0) (rm1 l Z a0 hw [] p1 cb h0 n0 Z0 O0 SHZ SCZ LC) hZ (ow hw 3 rfl) (ow hw 2 rfl) (by decide) (by decide)) (g := (mkF m 1 #[.val (.int p1), .val (.int p2), .val (.int p3), .val (.int p4), .unset, .unset, .unset, .unset, .unset, .unset, .unset, .unset, .unset] [(.int p1)])) rfl (by rw [hml]; rfl) (argsL := [(.int p1)]) (rest := []) (lenOf pd_0 rfl) rfl (by show 2 * 0 + _ ≤ _; exact Nat.le_of_eq rfl) (hb hby at_1) (fun _ _ => ⟨rfl, e0, (by decide : 0 + 1 ≤ _), (by decide : 0 + 1 ≤ _)⟩)
  dsimp only [Pt.U, Pt.locs, Pt.cells, Pt.slots] at X1 l1 y1 z1 st1 hQ1
  subst l1 y1 z1
  obtain ⟨av1, rfl, N1q, Ev1⟩ := hQ1
  have N1 := Fr.app N0 N1q
  have c2 := O0.ext Ev1
  obtain ⟨_, _, ⟨T3, L3, k3, n3⟩, -, X3, ⟨Lc3, hQ3, l3, y3, z3⟩, st3⟩ := Jvm.LawKit.callS X1 hx (y := nm_1) hown (mvT hZ (ow hw 0 rfl)) (mvT hZ (ow hw 1 rfl)) (mvT hZ (ow hw 2 rfl)) (mvT hZ (ow hw 3 rfl)) (by decide) (backOf (W := 0) (rm1 l Z a0 hw [] p2 cb T1.heap n0 (Nat.le_trans Z0 Ev1.1) c2 SHZ SCZ LC) hZ (ow hw 3 rfl) (ow hw 2 rfl) (by decide) (by decide)) (g := (mkF m 7 #[.val (.int p1), .val (.int p2), .val (.int p3), .val (.int p4), .val (.ref av1), .unset, .unset, .unset, .unset, .unset, .unset, .unset, .unset] [(.int p2)])) rfl (by rw [hml]; rfl) (argsL := [(.int p2)]) (rest := []) (lenOf pd_0 rfl) rfl (by show 2 * 0 + _ ≤ _; exact Nat.le_of_eq rfl) (hb hby at_7) (fun _ _ => ⟨rfl, rfl, (by decide : 1 + 1 ≤ _), (by decide : 1 + 1 ≤ _)⟩)
  dsimp only [Pt.U, Pt.locs, Pt.cells, Pt.slots] at X3 l3 y3 z3 st3 hQ3
  subst l3 y3 z3
  obtain ⟨av3, rfl, N3q, Ev3⟩ := hQ3
  have N3 := Fr.app N1 N3q
  have c4 := c2.ext Ev3
  obtain ⟨_, _, ⟨T5, L5, k5, n5⟩, -, X5, ⟨Lc5, hQ5, l5, y5, z5⟩, st5⟩ := Jvm.LawKit.callS X3 hx (y := nm_1) hown (mvT hZ (ow hw 0 rfl)) (mvT hZ (ow hw 1 rfl)) (mvT hZ (ow hw 2 rfl)) (mvT hZ (ow hw 3 rfl)) (by decide) (backOf (W := 0) (rm1 l Z a0 hw [] p3 cb T3.heap n0 (Nat.le_trans (Nat.le_trans Z0 Ev1.1) Ev3.1) c4 SHZ SCZ LC) hZ (ow hw 3 rfl) (ow hw 2 rfl) (by decide) (by decide)) (g := (mkF m 13 #[.val (.int p1), .val (.int p2), .val (.int p3), .val (.int p4), .val (.ref av1), .val (.ref av3), .unset, .unset, .unset, .unset, .unset, .unset, .unset] [(.int p3)])) rfl (by rw [hml]; rfl) (argsL := [(.int p3)]) (rest := []) (lenOf pd_0 rfl) rfl (by show 2 * 0 + _ ≤ _; exact Nat.le_of_eq rfl) (hb hby at_13) (fun _ _ => ⟨rfl, rfl, (by decide : 2 + 1 ≤ _), (by decide : 2 + 1 ≤ _)⟩)
  dsimp only [Pt.U, Pt.locs, Pt.cells, Pt.slots] at X5 l5 y5 z5 st5 hQ5
  subst l5 y5 z5
  obtain ⟨av5, rfl, N5q, Ev5⟩ := hQ5
  have N5 := Fr.app N3 N5q
  obtain ⟨T6, h6, X6, e6, E6, A6, D6, -, st6⟩ := newO X5 hx hZ hown (ow hw 7 rfl) (ow hw 8 rfl) (ow hw 9 rfl) rfl (g := (mkF m 18 #[.val (.int p1), .val (.int p2), .val (.int p3), .val (.int p4), .val (.ref av1), .val (.ref av3), .val (.ref av5), .unset, .unset, .unset, .unset, .unset, .unset] [])) rfl (hb hby at_18) (by decide) (by decide)
  obtain ⟨b6, g_b6⟩ : ∃ z, z = T5.heap.size := ⟨_, rfl⟩
  rw [← g_b6] at A6 D6 st6
  have g0_b6 : n0 ≤ b6 := Nat.le_trans (Nat.le_trans (Nat.le_trans (Nat.le_trans Z0 Ev1.1) Ev3.1) Ev5.1) (Nat.le_of_eq g_b6.symm)
  have sz_b6 : h0.size ≤ b6 := Nat.le_trans (Nat.le_trans (Nat.le_trans (Nat.le_trans (Nat.le_refl _) Ev1.1) Ev3.1) Ev5.1) (Nat.le_of_eq g_b6.symm)
  have F_node_b6 : Fld Z h6 b6 "com/example/framelatch/framelatch/Tree$Place" "node" "Ljava/lang/Object;" .null := D6 (Or.inr (ow hw 17 rfl)) (ty := (.object "java/lang/Object")) (by decide)
  have F_top_b6 : Fld Z h6 b6 "com/example/framelatch/framelatch/Tree$Place" "top" "Ljava/lang/Object;" .null := D6 (Or.inl (ow hw 19 rfl)) (ty := (.object "java/lang/Object")) (by decide)
  have F_parent_b6 : Fld Z h6 b6 "com/example/framelatch/framelatch/Tree$Place" "parent" "Lcom/example/framelatch/framelatch/Tree$Place;" .null := D6 (Or.inl (ow hw 27 rfl)) (ty := (.object "com/example/framelatch/framelatch/Tree$Place")) (by decide)
  have F_link_b6 : Fld Z h6 b6 "com/example/framelatch/framelatch/Tree$Place" "link" "Lcom/example/framelatch/framelatch/Tree$Place;" .null := D6 (Or.inl (ow hw 33 rfl)) (ty := (.object "com/example/framelatch/framelatch/Tree$Place")) (by decide)
  have F_rank_b6 : Fld Z h6 b6 "com/example/framelatch/framelatch/Tree$Place" "rank" "I" (.int (0 : Int32)) := D6 (Or.inl (ow hw 35 rfl)) (ty := .int) (by decide)
  obtain ⟨_, _, ⟨T7, L7, k7, n7⟩, -, X7, ⟨Lc7, hQ7, l7, y7, z7⟩, st7⟩ := X6.specialBack hx (y := nm_2) rfl hown (mvT hZ (ow hw 10 rfl)) (mvT hZ (ow hw 11 rfl)) (mvT hZ (ow hw 12 rfl)) (by decide) (backOf (W := 1) (rm2 l Z a0 hw [] b6 av1 h6 n0 (Nat.le_trans (Nat.le_trans (Nat.le_trans (Nat.le_trans Z0 Ev1.1) Ev3.1) Ev5.1) E6.1) g0_b6 ⟨A6, F_node_b6, F_top_b6, F_parent_b6, F_link_b6, F_rank_b6⟩) hZ (ow hw 12 rfl) (ow hw 9 rfl) (by decide) (by decide)) (g := (mkF m 24 #[.val (.int p1), .val (.int p2), .val (.int p3), .val (.int p4), .val (.ref av1), .val (.ref av3), .val (.ref av5), .unset, .unset, .unset, .unset, .unset, .unset] [(.ref av1), (.ref b6), (.ref b6)])) rfl (by rw [hml]; rfl) (Steps.refl _) (a := b6) (argsL := [(.ref av1)]) (rest := [(.ref b6)]) (lenOf pd_1 rfl) rfl (by show 2 * 0 + _ ≤ _; exact Nat.le_of_eq rfl) (hb hby at_24) (fun _ _ => ⟨rfl, e6, (by decide : 4 + 0 ≤ _), (by decide : 8 + 0 ≤ _)⟩)
  dsimp only [Pt.U, Pt.locs, Pt.cells, Pt.slots] at X7 l7 y7 z7 st7 hQ7
  subst l7 y7 z7
  obtain ⟨rfl, N7q, K7, PB7⟩ := hQ7
  have N7 := Fr.app N5 N7q
  obtain ⟨Epl8, Fapl8, Fbpl8, Fcpl8, Fdpl8, Fepl8⟩ := PB7
  obtain ⟨T9, h9, X9, e9, E9, A9, D9, -, st9⟩ := newO X7 hx hZ hown (ow hw 7 rfl) (ow hw 8 rfl) (ow hw 9 rfl) rfl (g := (mkF m 29 #[.val (.int p1), .val (.int p2), .val (.int p3), .val (.int p4), .val (.ref av1), .val (.ref av3), .val (.ref av5), .val (.ref b6), .unset, .unset, .unset, .unset, .unset] [])) rfl (hb hby at_29) (by decide) (by decide)
  obtain ⟨b9, g_b9⟩ : ∃ z, z = T7.heap.size := ⟨_, rfl⟩
  rw [← g_b9] at A9 D9 st9
  have g0_b9 : n0 ≤ b9 := Nat.le_trans (Nat.le_trans (Nat.le_trans (Nat.le_trans (Nat.le_trans (Nat.le_trans Z0 Ev1.1) Ev3.1) Ev5.1) E6.1) K7.1) (Nat.le_of_eq g_b9.symm)
  have sz_b9 : h0.size ≤ b9 := Nat.le_trans (Nat.le_trans (Nat.le_trans (Nat.le_trans (Nat.le_trans (Nat.le_trans (Nat.le_refl _) Ev1.1) Ev3.1) Ev5.1) E6.1) K7.1) (Nat.le_of_eq g_b9.symm)
  have ne_b6_b9 : b6 ≠ b9 := Nat.ne_of_lt (Nat.lt_of_lt_of_le Epl8.lt (Nat.le_of_eq g_b9.symm))
  have F_node_b9 : Fld Z h9 b9 "com/example/framelatch/framelatch/Tree$Place" "node" "Ljava/lang/Object;" .null := D9 (Or.inr (ow hw 17 rfl)) (ty := (.object "java/lang/Object")) (by decide)
  have F_top_b9 : Fld Z h9 b9 "com/example/framelatch/framelatch/Tree$Place" "top" "Ljava/lang/Object;" .null := D9 (Or.inl (ow hw 19 rfl)) (ty := (.object "java/lang/Object")) (by decide)
  have F_parent_b9 : Fld Z h9 b9 "com/example/framelatch/framelatch/Tree$Place" "parent" "Lcom/example/framelatch/framelatch/Tree$Place;" .null := D9 (Or.inl (ow hw 27 rfl)) (ty := (.object "com/example/framelatch/framelatch/Tree$Place")) (by decide)
  have F_link_b9 : Fld Z h9 b9 "com/example/framelatch/framelatch/Tree$Place" "link" "Lcom/example/framelatch/framelatch/Tree$Place;" .null := D9 (Or.inl (ow hw 33 rfl)) (ty := (.object "com/example/framelatch/framelatch/Tree$Place")) (by decide)
  have F_rank_b9 : Fld Z h9 b9 "com/example/framelatch/framelatch/Tree$Place" "rank" "I" (.int (0 : Int32)) := D9 (Or.inl (ow hw 35 rfl)) (ty := .int) (by decide)
  obtain ⟨_, _, ⟨T10, L10, k10, n10⟩, -, X10, ⟨Lc10, hQ10, l10, y10, z10⟩, st10⟩ := X9.specialBack hx (y := nm_2) rfl hown (mvT hZ (ow hw 10 rfl)) (mvT hZ (ow hw 11 rfl)) (mvT hZ (ow hw 12 rfl)) (by decide) (backOf (W := 1) (rm2 l Z a0 hw [] b9 av3 h9 n0 (Nat.le_trans (Nat.le_trans (Nat.le_trans (Nat.le_trans (Nat.le_trans (Nat.le_trans Z0 Ev1.1) Ev3.1) Ev5.1) E6.1) K7.1) E9.1) g0_b9 ⟨A9, F_node_b9, F_top_b9, F_parent_b9, F_link_b9, F_rank_b9⟩) hZ (ow hw 12 rfl) (ow hw 9 rfl) (by decide) (by decide)) (g := (mkF m 35 #[.val (.int p1), .val (.int p2), .val (.int p3), .val (.int p4), .val (.ref av1), .val (.ref av3), .val (.ref av5), .val (.ref b6), .unset, .unset, .unset, .unset, .unset] [(.ref av3), (.ref b9), (.ref b9)])) rfl (by rw [hml]; rfl) (Steps.refl _) (a := b9) (argsL := [(.ref av3)]) (rest := [(.ref b9)]) (lenOf pd_1 rfl) rfl (by show 2 * 0 + _ ≤ _; exact Nat.le_of_eq rfl) (hb hby at_35) (fun _ _ => ⟨rfl, e9, (by decide : 5 + 0 ≤ _), (by decide : 13 + 0 ≤ _)⟩)
  dsimp only [Pt.U, Pt.locs, Pt.cells, Pt.slots] at X10 l10 y10 z10 st10 hQ10
  subst l10 y10 z10
  obtain ⟨rfl, N10q, K10, PB10⟩ := hQ10
  have N10 := Fr.app N7 N10q
  obtain ⟨Epl11, Fapl11, Fbpl11, Fcpl11, Fdpl11, Fepl11⟩ := PB10
  obtain ⟨T12, h12, X12, e12, E12, A12, D12, -, st12⟩ := newO X10 hx hZ hown (ow hw 7 rfl) (ow hw 8 rfl) (ow hw 9 rfl) rfl (g := (mkF m 40 #[.val (.int p1), .val (.int p2), .val (.int p3), .val (.int p4), .val (.ref av1), .val (.ref av3), .val (.ref av5), .val (.ref b6), .val (.ref b9), .unset, .unset, .unset, .unset] [])) rfl (hb hby at_40) (by decide) (by decide)
  obtain ⟨b12, g_b12⟩ : ∃ z, z = T10.heap.size := ⟨_, rfl⟩
  rw [← g_b12] at A12 D12 st12
  have g0_b12 : n0 ≤ b12 := Nat.le_trans (Nat.le_trans (Nat.le_trans (Nat.le_trans (Nat.le_trans (Nat.le_trans (Nat.le_trans (Nat.le_trans Z0 Ev1.1) Ev3.1) Ev5.1) E6.1) K7.1) E9.1) K10.1) (Nat.le_of_eq g_b12.symm)
  have sz_b12 : h0.size ≤ b12 := Nat.le_trans (Nat.le_trans (Nat.le_trans (Nat.le_trans (Nat.le_trans (Nat.le_trans (Nat.le_trans (Nat.le_trans (Nat.le_refl _) Ev1.1) Ev3.1) Ev5.1) E6.1) K7.1) E9.1) K10.1) (Nat.le_of_eq g_b12.symm)
  have c13 := Epl8.ext E9
  have c14 := c13.keep K10
  have ne_b6_b12 : b6 ≠ b12 := Nat.ne_of_lt (Nat.lt_of_lt_of_le c14.lt (Nat.le_of_eq g_b12.symm))
  have ne_b9_b12 : b9 ≠ b12 := Nat.ne_of_lt (Nat.lt_of_lt_of_le Epl11.lt (Nat.le_of_eq g_b12.symm))
  have F_node_b12 : Fld Z h12 b12 "com/example/framelatch/framelatch/Tree$Place" "node" "Ljava/lang/Object;" .null := D12 (Or.inr (ow hw 17 rfl)) (ty := (.object "java/lang/Object")) (by decide)
  have F_top_b12 : Fld Z h12 b12 "com/example/framelatch/framelatch/Tree$Place" "top" "Ljava/lang/Object;" .null := D12 (Or.inl (ow hw 19 rfl)) (ty := (.object "java/lang/Object")) (by decide)
  have F_parent_b12 : Fld Z h12 b12 "com/example/framelatch/framelatch/Tree$Place" "parent" "Lcom/example/framelatch/framelatch/Tree$Place;" .null := D12 (Or.inl (ow hw 27 rfl)) (ty := (.object "com/example/framelatch/framelatch/Tree$Place")) (by decide)
  have F_link_b12 : Fld Z h12 b12 "com/example/framelatch/framelatch/Tree$Place" "link" "Lcom/example/framelatch/framelatch/Tree$Place;" .null := D12 (Or.inl (ow hw 33 rfl)) (ty := (.object "com/example/framelatch/framelatch/Tree$Place")) (by decide)
  have F_rank_b12 : Fld Z h12 b12 "com/example/framelatch/framelatch/Tree$Place" "rank" "I" (.int (0 : Int32)) := D12 (Or.inl (ow hw 35 rfl)) (ty := .int) (by decide)
  obtain ⟨_, _, ⟨T15, L15, k15, n15⟩, -, X15, ⟨Lc15, hQ15, l15, y15, z15⟩, st15⟩ := X12.specialBack hx (y := nm_2) rfl hown (mvT hZ (ow hw 10 rfl)) (mvT hZ (ow hw 11 rfl)) (mvT hZ (ow hw 12 rfl)) (by decide) (backOf (W := 1) (rm2 l Z a0 hw [] b12 av5 h12 n0 (Nat.le_trans (Nat.le_trans (Nat.le_trans (Nat.le_trans (Nat.le_trans (Nat.le_trans (Nat.le_trans (Nat.le_trans Z0 Ev1.1) Ev3.1) Ev5.1) E6.1) K7.1) E9.1) K10.1) E12.1) g0_b12 ⟨A12, F_node_b12, F_top_b12, F_parent_b12, F_link_b12, F_rank_b12⟩) hZ (ow hw 12 rfl) (ow hw 9 rfl) (by decide) (by decide)) (g := (mkF m 46 #[.val (.int p1), .val (.int p2), .val (.int p3), .val (.int p4), .val (.ref av1), .val (.ref av3), .val (.ref av5), .val (.ref b6), .val (.ref b9), .unset, .unset, .unset, .unset] [(.ref av5), (.ref b12), (.ref b12)])) rfl (by rw [hml]; rfl) (Steps.refl _) (a := b12) (argsL := [(.ref av5)]) (rest := [(.ref b12)]) (lenOf pd_1 rfl) rfl (by show 2 * 0 + _ ≤ _; exact Nat.le_of_eq rfl) (hb hby at_46) (fun _ _ => ⟨rfl, e12, (by decide : 6 + 0 ≤ _), (by decide : 18 + 0 ≤ _)⟩)
  dsimp only [Pt.U, Pt.locs, Pt.cells, Pt.slots] at X15 l15 y15 z15 st15 hQ15
  subst l15 y15 z15
  obtain ⟨rfl, N15q, K15, PB15⟩ := hQ15
  have N15 := Fr.app N10 N15q
  obtain ⟨Epl16, Fapl16, Fbpl16, Fcpl16, Fdpl16, Fepl16⟩ := PB15
  have c17 := Epl11.ext E12
  have c18 := c17.keep K15
  have c19 := Fapl11.ext E12
  have c20 := c19.keep K15 (ninS ne_b9_b12 nin0)
  have c21 := Fbpl11.ext E12
  have c22 := c21.keep K15 (ninS ne_b9_b12 nin0)
  have c23 := Fcpl11.ext E12
  have c24 := c23.keep K15 (ninS ne_b9_b12 nin0)
  have c25 := Fdpl11.ext E12
  have c26 := c25.keep K15 (ninS ne_b9_b12 nin0)
  have c27 := Fepl11.ext E12
  have c28 := c27.keep K15 (ninS ne_b9_b12 nin0)
  have c29 := c14.ext E12
  have c30 := c29.keep K15
  have c31 := Fapl8.ext E9
  have c32 := c31.keep K10 (ninS ne_b6_b9 nin0)
  have c33 := c32.ext E12
  have c34 := c33.keep K15 (ninS ne_b6_b12 nin0)
  have c35 := Fbpl8.ext E9
  have c36 := c35.keep K10 (ninS ne_b6_b9 nin0)
  have c37 := c36.ext E12
  have c38 := c37.keep K15 (ninS ne_b6_b12 nin0)
  have c39 := Fcpl8.ext E9
  have c40 := c39.keep K10 (ninS ne_b6_b9 nin0)
  have c41 := c40.ext E12
  have c42 := c41.keep K15 (ninS ne_b6_b12 nin0)
  have c43 := Fdpl8.ext E9
  have c44 := c43.keep K10 (ninS ne_b6_b9 nin0)
  have c45 := c44.ext E12
  have c46 := c45.keep K15 (ninS ne_b6_b12 nin0)
  have c47 := Fepl8.ext E9
  have c48 := c47.keep K10 (ninS ne_b6_b9 nin0)
  have c49 := c48.ext E12
  have c50 := c49.keep K15 (ninS ne_b6_b12 nin0)
  obtain ⟨cq51, kq51, q51a, q51b, q51c⟩ := isOf hZ rfl c18
  obtain ⟨_, _, ⟨T51, L51, k51, n51⟩, -, X51, ⟨Lc51, hQ51, l51, y51, z51⟩, st51⟩ := X15.virtualBack hx (y := nm_4) (z := nm_4) hown (mvT hZ (ow hw 21 rfl)) (mvT hZ (ow hw 22 rfl)) (notFace_of_selects (args := #[]) (mvT hZ (ow hw 24 rfl))) (mvT hZ (ow hw 24 rfl)) (mvT hZ (ow hw 23 rfl)) (by decide) (backOf (W := 0) (rm4_A l Z a0 hw [] b9 b6 (.ref av3) (.ref av3) .null (0 : Int32) (.ref av1) av1 .null (0 : Int32) T15.heap n0 (Nat.le_trans (Nat.le_trans (Nat.le_trans (Nat.le_trans (Nat.le_trans (Nat.le_trans (Nat.le_trans (Nat.le_trans (Nat.le_trans Z0 Ev1.1) Ev3.1) Ev5.1) E6.1) K7.1) E9.1) K10.1) E12.1) K15.1) (Ne.symm ne_b6_b9) g0_b9 g0_b6 ⟨c18, c20, c22, c24, c26, c28⟩ ⟨c30, c34, c38, c42, c46, c50⟩ (by decide) (by decide)) hZ (ow hw 25 rfl) (ow hw 9 rfl) (by decide) (by decide)) q51a q51c (g := (mkF m 75 #[.val (.int p1), .val (.int p2), .val (.int p3), .val (.int p4), .val (.ref av1), .val (.ref av3), .val (.ref av5), .val (.ref b6), .val (.ref b9), .val (.ref b12), .val (.int ((p4 &&& (2147483647 : Int32)) % (5 : Int32))), .val .null, .val .null] [(.ref b6), (.ref b9)])) rfl (by rw [hml]; rfl) (Steps.refl _) (argsL := [(.ref b6)]) (rest := []) (lenOf pd_3 rfl) rfl (by show 2 * 0 + _ ≤ _; exact Nat.le_of_eq rfl) (hb hby at_75) (fun _ _ => ⟨rfl, rfl, (by decide : 6 + 0 ≤ _), (by decide : 18 + 0 ≤ _)⟩)
  dsimp only [Pt.U, Pt.locs, Pt.cells, Pt.slots] at X51 l51 y51 z51 st51 hQ51
  subst l51 y51 z51
  obtain ⟨rfl, N51q, K51, Pu51, Pw51⟩ := hQ51
  have N51 := Fr.app N15 N51q
  obtain ⟨Epl52, Fapl52, Fbpl52, Fcpl52, Fdpl52, Fepl52⟩ := Pu51
  obtain ⟨Epl53, Fapl53, Fbpl53, Fcpl53, Fdpl53, Fepl53⟩ := Pw51
  obtain ⟨cq54, kq54, q54a, q54b, q54c⟩ := isOf hZ rfl Epl53
  obtain ⟨_, _, ⟨T54, L54, k54, n54⟩, -, X54, ⟨Lc54, hQ54, l54, y54, z54⟩, st54⟩ := X51.virtualBack hx (y := nm_6) (z := nm_6) hown (mvT hZ (ow hw 36 rfl)) (mvT hZ (ow hw 37 rfl)) (notFace_of_selects (args := #[]) (mvT hZ (ow hw 39 rfl))) (mvT hZ (ow hw 39 rfl)) (mvT hZ (ow hw 38 rfl)) (by decide) (backOf (W := 0) (rm6_N l Z a0 hw [] b6 T51.heap n0 (Nat.le_trans (Nat.le_trans (Nat.le_trans (Nat.le_trans (Nat.le_trans (Nat.le_trans (Nat.le_trans (Nat.le_trans (Nat.le_trans (Nat.le_trans Z0 Ev1.1) Ev3.1) Ev5.1) E6.1) K7.1) E9.1) K10.1) E12.1) K15.1) K51.1) Fcpl53) hZ (ow hw 40 rfl) (ow hw 9 rfl) (by decide) (by decide)) q54a q54c (g := (mkF m 177 #[.val (.int p1), .val (.int p2), .val (.int p3), .val (.int p4), .val (.ref av1), .val (.ref av3), .val (.ref av5), .val (.ref b6), .val (.ref b9), .val (.ref b12), .val (.int ((p4 &&& (2147483647 : Int32)) % (5 : Int32))), .val (.ref av1), .val .null] [(.ref b6)])) rfl (by rw [hml]; rfl) (Steps.refl _) (argsL := []) (rest := []) (lenOf pd_5 rfl) rfl (by show 2 * 0 + _ ≤ _; exact Nat.le_of_eq rfl) (hb hby at_177) (fun _ _ => ⟨rfl, rfl, (by decide : 6 + 0 ≤ _), (by decide : 18 + 0 ≤ _)⟩)
  dsimp only [Pt.U, Pt.locs, Pt.cells, Pt.slots] at X54 l54 y54 z54 st54 hQ54
  subst l54 y54 z54
  obtain ⟨rfl, N54q, e54⟩ := hQ54
  have N54 := Fr.app N51 N54q
  obtain ⟨cq55, kq55, q55a, q55b, q55c⟩ := isOf hZ e54 Epl52
  obtain ⟨_, _, ⟨T55, L55, k55, n55⟩, -, X55, ⟨Lc55, hQ55, l55, y55, z55⟩, st55⟩ := X54.virtualBack hx (y := nm_6) (z := nm_6) hown (mvT hZ (ow hw 36 rfl)) (mvT hZ (ow hw 37 rfl)) (notFace_of_selects (args := #[]) (mvT hZ (ow hw 39 rfl))) (mvT hZ (ow hw 39 rfl)) (mvT hZ (ow hw 38 rfl)) (by decide) (backOf (W := 0) (rm6_R l Z a0 hw [] b9 b6 av1 T51.heap n0 (Nat.le_trans (Nat.le_trans (Nat.le_trans (Nat.le_trans (Nat.le_trans (Nat.le_trans (Nat.le_trans (Nat.le_trans (Nat.le_trans (Nat.le_trans Z0 Ev1.1) Ev3.1) Ev5.1) E6.1) K7.1) E9.1) K10.1) E12.1) K15.1) K51.1) Fcpl52 Fapl53) hZ (ow hw 40 rfl) (ow hw 9 rfl) (by decide) (by decide)) q55a q55c (g := (mkF m 185 #[.val (.int p1), .val (.int p2), .val (.int p3), .val (.int p4), .val (.ref av1), .val (.ref av3), .val (.ref av5), .val (.ref b6), .val (.ref b9), .val (.ref b12), .val (.int ((p4 &&& (2147483647 : Int32)) % (5 : Int32))), .val (.ref av1), .val .null] [(.ref b9)])) rfl (by rw [hml]; rfl) (Steps.refl _) (argsL := []) (rest := []) (lenOf pd_5 rfl) rfl (by show 2 * 0 + _ ≤ _; exact Nat.le_of_eq rfl) (hb hby at_185) (fun _ _ => ⟨rfl, e54, (by decide : 6 + 0 ≤ _), (by decide : 18 + 0 ≤ _)⟩)
  dsimp only [Pt.U, Pt.locs, Pt.cells, Pt.slots] at X55 l55 y55 z55 st55 hQ55
  subst l55 y55 z55
  obtain ⟨rfl, N55q, e55⟩ := hQ55
  have N55 := Fr.app N54 N55q
  have c56 := Fcpl16.keep K51 (ninS (Ne.symm ne_b9_b12) (ninS (Ne.symm ne_b6_b12) nin0))
  have c58 := Epl16.keep K51
  obtain ⟨cq57, kq57, q57a, q57b, q57c⟩ := isOf hZ e55 c58
  obtain ⟨_, _, ⟨T57, L57, k57, n57⟩, -, X57, ⟨Lc57, hQ57, l57, y57, z57⟩, st57⟩ := X55.virtualBack hx (y := nm_6) (z := nm_6) hown (mvT hZ (ow hw 36 rfl)) (mvT hZ (ow hw 37 rfl)) (notFace_of_selects (args := #[]) (mvT hZ (ow hw 39 rfl))) (mvT hZ (ow hw 39 rfl)) (mvT hZ (ow hw 38 rfl)) (by decide) (backOf (W := 0) (rm6_N l Z a0 hw [] b12 T51.heap n0 (Nat.le_trans (Nat.le_trans (Nat.le_trans (Nat.le_trans (Nat.le_trans (Nat.le_trans (Nat.le_trans (Nat.le_trans (Nat.le_trans (Nat.le_trans Z0 Ev1.1) Ev3.1) Ev5.1) E6.1) K7.1) E9.1) K10.1) E12.1) K15.1) K51.1) c56) hZ (ow hw 40 rfl) (ow hw 9 rfl) (by decide) (by decide)) q57a q57c (g := (mkF m 195 #[.val (.int p1), .val (.int p2), .val (.int p3), .val (.int p4), .val (.ref av1), .val (.ref av3), .val (.ref av5), .val (.ref b6), .val (.ref b9), .val (.ref b12), .val (.int ((p4 &&& (2147483647 : Int32)) % (5 : Int32))), .val (.ref av1), .val .null] [(.ref b12)])) rfl (by rw [hml]; rfl) (Steps.refl _) (argsL := []) (rest := []) (lenOf pd_5 rfl) rfl (by show 2 * 0 + _ ≤ _; exact Nat.le_of_eq rfl) (hb hby at_195) (fun _ _ => ⟨rfl, e55, (by decide : 6 + 0 ≤ _), (by decide : 18 + 0 ≤ _)⟩)
  dsimp only [Pt.U, Pt.locs, Pt.cells, Pt.slots] at X57 l57 y57 z57 st57 hQ57
  subst l57 y57 z57
  obtain ⟨rfl, N57q, e57⟩ := hQ57
  have N57 := Fr.app N55 N57q
  obtain ⟨fs, hr, hrun, hended, hW, hsame⟩ := X57.leave (v := some (.int (1 : Int32))) (fun h => by rw [Bd.returns] at h; cases h)
  refine ⟨_, _, pre0 _ ?_, hrun, hended, _, _, rfl, ?_, ⟨_, rfl⟩, hW, hsame.mono (by decide) (by decide)⟩
  · show Steps p.tables e below (s₁.setTop (mkF m 0 #[.val (.int p1), .val (.int p2), .val (.int p3), .val (.int p4), .unset, .unset, .unset, .unset, .unset, .unset, .unset, .unset, .unset] [])) _
    refine XS.iloadN X0.here hx rfl (hb hby at_0) rfl ?_
    show Steps p.tables e below (s₁.setTop (mkF m 1 #[.val (.int p1), .val (.int p2), .val (.int p3), .val (.int p4), .unset, .unset, .unset, .unset, .unset, .unset, .unset, .unset, .unset] [(.int p1)])) _
    refine st1 _ ?_
    show Steps p.tables e below (T1.setTop (mkF m 4 #[.val (.int p1), .val (.int p2), .val (.int p3), .val (.int p4), .unset, .unset, .unset, .unset, .unset, .unset, .unset, .unset, .unset] [(.ref av1)])) _
    refine XS.astore X1.here hx rfl (hb hby at_4) rfl rfl (l' := #[.val (.int p1), .val (.int p2), .val (.int p3), .val (.int p4), .val (.ref av1), .unset, .unset, .unset, .unset, .unset, .unset, .unset, .unset]) rfl ?_
    show Steps p.tables e below (T1.setTop (mkF m 6 #[.val (.int p1), .val (.int p2), .val (.int p3), .val (.int p4), .val (.ref av1), .unset, .unset, .unset, .unset, .unset, .unset, .unset, .unset] [])) _
    refine XS.iloadN X1.here hx rfl (hb hby at_6) rfl ?_
    show Steps p.tables e below (T1.setTop (mkF m 7 #[.val (.int p1), .val (.int p2), .val (.int p3), .val (.int p4), .val (.ref av1), .unset, .unset, .unset, .unset, .unset, .unset, .unset, .unset] [(.int p2)])) _
    refine st3 _ ?_
    show Steps p.tables e below (T3.setTop (mkF m 10 #[.val (.int p1), .val (.int p2), .val (.int p3), .val (.int p4), .val (.ref av1), .unset, .unset, .unset, .unset, .unset, .unset, .unset, .unset] [(.ref av3)])) _
    refine XS.astore X3.here hx rfl (hb hby at_10) rfl rfl (l' := #[.val (.int p1), .val (.int p2), .val (.int p3), .val (.int p4), .val (.ref av1), .val (.ref av3), .unset, .unset, .unset, .unset, .unset, .unset, .unset]) rfl ?_
    show Steps p.tables e below (T3.setTop (mkF m 12 #[.val (.int p1), .val (.int p2), .val (.int p3), .val (.int p4), .val (.ref av1), .val (.ref av3), .unset, .unset, .unset, .unset, .unset, .unset, .unset] [])) _
    refine XS.iloadN X3.here hx rfl (hb hby at_12) rfl ?_
    show Steps p.tables e below (T3.setTop (mkF m 13 #[.val (.int p1), .val (.int p2), .val (.int p3), .val (.int p4), .val (.ref av1), .val (.ref av3), .unset, .unset, .unset, .unset, .unset, .unset, .unset] [(.int p3)])) _
    refine st5 _ ?_
    show Steps p.tables e below (T5.setTop (mkF m 16 #[.val (.int p1), .val (.int p2), .val (.int p3), .val (.int p4), .val (.ref av1), .val (.ref av3), .unset, .unset, .unset, .unset, .unset, .unset, .unset] [(.ref av5)])) _
    refine XS.astore X5.here hx rfl (hb hby at_16) rfl rfl (l' := #[.val (.int p1), .val (.int p2), .val (.int p3), .val (.int p4), .val (.ref av1), .val (.ref av3), .val (.ref av5), .unset, .unset, .unset, .unset, .unset, .unset]) rfl ?_
    show Steps p.tables e below (T5.setTop (mkF m 18 #[.val (.int p1), .val (.int p2), .val (.int p3), .val (.int p4), .val (.ref av1), .val (.ref av3), .val (.ref av5), .unset, .unset, .unset, .unset, .unset, .unset] [])) _
    refine st6 _ ?_
    show Steps p.tables e below (T6.setTop (mkF m 21 #[.val (.int p1), .val (.int p2), .val (.int p3), .val (.int p4), .val (.ref av1), .val (.ref av3), .val (.ref av5), .unset, .unset, .unset, .unset, .unset, .unset] [(.ref b6)])) _
    refine XS.dup X6.here hx rfl (hb hby at_21) rfl rfl ?_
    show Steps p.tables e below (T6.setTop (mkF m 22 #[.val (.int p1), .val (.int p2), .val (.int p3), .val (.int p4), .val (.ref av1), .val (.ref av3), .val (.ref av5), .unset, .unset, .unset, .unset, .unset, .unset] [(.ref b6), (.ref b6)])) _
    refine XS.aload X6.here hx rfl (hb hby at_22) rfl rfl ?_
    show Steps p.tables e below (T6.setTop (mkF m 24 #[.val (.int p1), .val (.int p2), .val (.int p3), .val (.int p4), .val (.ref av1), .val (.ref av3), .val (.ref av5), .unset, .unset, .unset, .unset, .unset, .unset] [(.ref av1), (.ref b6), (.ref b6)])) _
    refine st7.trans ?_
    show Steps p.tables e below (T7.setTop (mkF m 27 #[.val (.int p1), .val (.int p2), .val (.int p3), .val (.int p4), .val (.ref av1), .val (.ref av3), .val (.ref av5), .unset, .unset, .unset, .unset, .unset, .unset] [(.ref b6)])) _
    refine XS.astore X7.here hx rfl (hb hby at_27) rfl rfl (l' := #[.val (.int p1), .val (.int p2), .val (.int p3), .val (.int p4), .val (.ref av1), .val (.ref av3), .val (.ref av5), .val (.ref b6), .unset, .unset, .unset, .unset, .unset]) rfl ?_
    show Steps p.tables e below (T7.setTop (mkF m 29 #[.val (.int p1), .val (.int p2), .val (.int p3), .val (.int p4), .val (.ref av1), .val (.ref av3), .val (.ref av5), .val (.ref b6), .unset, .unset, .unset, .unset, .unset] [])) _
    refine st9 _ ?_
    show Steps p.tables e below (T9.setTop (mkF m 32 #[.val (.int p1), .val (.int p2), .val (.int p3), .val (.int p4), .val (.ref av1), .val (.ref av3), .val (.ref av5), .val (.ref b6), .unset, .unset, .unset, .unset, .unset] [(.ref b9)])) _
    refine XS.dup X9.here hx rfl (hb hby at_32) rfl rfl ?_
    show Steps p.tables e below (T9.setTop (mkF m 33 #[.val (.int p1), .val (.int p2), .val (.int p3), .val (.int p4), .val (.ref av1), .val (.ref av3), .val (.ref av5), .val (.ref b6), .unset, .unset, .unset, .unset, .unset] [(.ref b9), (.ref b9)])) _
    refine XS.aload X9.here hx rfl (hb hby at_33) rfl rfl ?_
    show Steps p.tables e below (T9.setTop (mkF m 35 #[.val (.int p1), .val (.int p2), .val (.int p3), .val (.int p4), .val (.ref av1), .val (.ref av3), .val (.ref av5), .val (.ref b6), .unset, .unset, .unset, .unset, .unset] [(.ref av3), (.ref b9), (.ref b9)])) _
    refine st10.trans ?_
    show Steps p.tables e below (T10.setTop (mkF m 38 #[.val (.int p1), .val (.int p2), .val (.int p3), .val (.int p4), .val (.ref av1), .val (.ref av3), .val (.ref av5), .val (.ref b6), .unset, .unset, .unset, .unset, .unset] [(.ref b9)])) _
    refine XS.astore X10.here hx rfl (hb hby at_38) rfl rfl (l' := #[.val (.int p1), .val (.int p2), .val (.int p3), .val (.int p4), .val (.ref av1), .val (.ref av3), .val (.ref av5), .val (.ref b6), .val (.ref b9), .unset, .unset, .unset, .unset]) rfl ?_
    show Steps p.tables e below (T10.setTop (mkF m 40 #[.val (.int p1), .val (.int p2), .val (.int p3), .val (.int p4), .val (.ref av1), .val (.ref av3), .val (.ref av5), .val (.ref b6), .val (.ref b9), .unset, .unset, .unset, .unset] [])) _
    refine st12 _ ?_
    show Steps p.tables e below (T12.setTop (mkF m 43 #[.val (.int p1), .val (.int p2), .val (.int p3), .val (.int p4), .val (.ref av1), .val (.ref av3), .val (.ref av5), .val (.ref b6), .val (.ref b9), .unset, .unset, .unset, .unset] [(.ref b12)])) _
    refine XS.dup X12.here hx rfl (hb hby at_43) rfl rfl ?_
    show Steps p.tables e below (T12.setTop (mkF m 44 #[.val (.int p1), .val (.int p2), .val (.int p3), .val (.int p4), .val (.ref av1), .val (.ref av3), .val (.ref av5), .val (.ref b6), .val (.ref b9), .unset, .unset, .unset, .unset] [(.ref b12), (.ref b12)])) _
    refine XS.aload X12.here hx rfl (hb hby at_44) rfl rfl ?_
    show Steps p.tables e below (T12.setTop (mkF m 46 #[.val (.int p1), .val (.int p2), .val (.int p3), .val (.int p4), .val (.ref av1), .val (.ref av3), .val (.ref av5), .val (.ref b6), .val (.ref b9), .unset, .unset, .unset, .unset] [(.ref av5), (.ref b12), (.ref b12)])) _
    refine st15.trans ?_
    show Steps p.tables e below (T15.setTop (mkF m 49 #[.val (.int p1), .val (.int p2), .val (.int p3), .val (.int p4), .val (.ref av1), .val (.ref av3), .val (.ref av5), .val (.ref b6), .val (.ref b9), .unset, .unset, .unset, .unset] [(.ref b12)])) _
    refine XS.astore X15.here hx rfl (hb hby at_49) rfl rfl (l' := #[.val (.int p1), .val (.int p2), .val (.int p3), .val (.int p4), .val (.ref av1), .val (.ref av3), .val (.ref av5), .val (.ref b6), .val (.ref b9), .val (.ref b12), .unset, .unset, .unset]) rfl ?_
    show Steps p.tables e below (T15.setTop (mkF m 51 #[.val (.int p1), .val (.int p2), .val (.int p3), .val (.int p4), .val (.ref av1), .val (.ref av3), .val (.ref av5), .val (.ref b6), .val (.ref b9), .val (.ref b12), .unset, .unset, .unset] [])) _
    refine XS.iloadN X15.here hx rfl (hb hby at_51) rfl ?_
    show Steps p.tables e below (T15.setTop (mkF m 52 #[.val (.int p1), .val (.int p2), .val (.int p3), .val (.int p4), .val (.ref av1), .val (.ref av3), .val (.ref av5), .val (.ref b6), .val (.ref b9), .val (.ref b12), .unset, .unset, .unset] [(.int p4)])) _
    refine X15.ldcInt hx hown (mvT hZ (ow hw 20 rfl)) (g := (mkF m 52 #[.val (.int p1), .val (.int p2), .val (.int p3), .val (.int p4), .val (.ref av1), .val (.ref av3), .val (.ref av5), .val (.ref b6), .val (.ref b9), .val (.ref b12), .unset, .unset, .unset] [(.int p4)])) rfl (hb hby at_52) _ ?_
    show Steps p.tables e below (T15.setTop (mkF m 54 #[.val (.int p1), .val (.int p2), .val (.int p3), .val (.int p4), .val (.ref av1), .val (.ref av3), .val (.ref av5), .val (.ref b6), .val (.ref b9), .val (.ref b12), .unset, .unset, .unset] [(.int (2147483647 : Int32)), (.int p4)])) _
    refine XS.iand X15.here hx rfl (hb hby at_54) rfl ?_
    show Steps p.tables e below (T15.setTop (mkF m 55 #[.val (.int p1), .val (.int p2), .val (.int p3), .val (.int p4), .val (.ref av1), .val (.ref av3), .val (.ref av5), .val (.ref b6), .val (.ref b9), .val (.ref b12), .unset, .unset, .unset] [(.int (p4 &&& (2147483647 : Int32)))])) _
    refine XS.iconst X15.here hx rfl (hb hby at_55) ?_
    show Steps p.tables e below (T15.setTop (mkF m 56 #[.val (.int p1), .val (.int p2), .val (.int p3), .val (.int p4), .val (.ref av1), .val (.ref av3), .val (.ref av5), .val (.ref b6), .val (.ref b9), .val (.ref b12), .unset, .unset, .unset] [(.int (5 : Int32)), (.int (p4 &&& (2147483647 : Int32)))])) _
    refine iremM X15 hx (g := (mkF m 56 #[.val (.int p1), .val (.int p2), .val (.int p3), .val (.int p4), .val (.ref av1), .val (.ref av3), .val (.ref av5), .val (.ref b6), .val (.ref b9), .val (.ref b12), .unset, .unset, .unset] [(.int (5 : Int32)), (.int (p4 &&& (2147483647 : Int32)))])) rfl (hb hby at_56) rfl (by decide) ?_
    show Steps p.tables e below (T15.setTop (mkF m 57 #[.val (.int p1), .val (.int p2), .val (.int p3), .val (.int p4), .val (.ref av1), .val (.ref av3), .val (.ref av5), .val (.ref b6), .val (.ref b9), .val (.ref b12), .unset, .unset, .unset] [(.int ((p4 &&& (2147483647 : Int32)) % (5 : Int32)))])) _
    refine XS.istore X15.here hx rfl (hb hby at_57) rfl (l' := #[.val (.int p1), .val (.int p2), .val (.int p3), .val (.int p4), .val (.ref av1), .val (.ref av3), .val (.ref av5), .val (.ref b6), .val (.ref b9), .val (.ref b12), .val (.int ((p4 &&& (2147483647 : Int32)) % (5 : Int32))), .unset, .unset]) rfl ?_
    show Steps p.tables e below (T15.setTop (mkF m 59 #[.val (.int p1), .val (.int p2), .val (.int p3), .val (.int p4), .val (.ref av1), .val (.ref av3), .val (.ref av5), .val (.ref b6), .val (.ref b9), .val (.ref b12), .val (.int ((p4 &&& (2147483647 : Int32)) % (5 : Int32))), .unset, .unset] [])) _
    refine XS.aconstNull X15.here hx rfl (hb hby at_59) ?_
    show Steps p.tables e below (T15.setTop (mkF m 60 #[.val (.int p1), .val (.int p2), .val (.int p3), .val (.int p4), .val (.ref av1), .val (.ref av3), .val (.ref av5), .val (.ref b6), .val (.ref b9), .val (.ref b12), .val (.int ((p4 &&& (2147483647 : Int32)) % (5 : Int32))), .unset, .unset] [.null])) _
    refine XS.astore X15.here hx rfl (hb hby at_60) rfl rfl (l' := #[.val (.int p1), .val (.int p2), .val (.int p3), .val (.int p4), .val (.ref av1), .val (.ref av3), .val (.ref av5), .val (.ref b6), .val (.ref b9), .val (.ref b12), .val (.int ((p4 &&& (2147483647 : Int32)) % (5 : Int32))), .val .null, .unset]) rfl ?_
    show Steps p.tables e below (T15.setTop (mkF m 62 #[.val (.int p1), .val (.int p2), .val (.int p3), .val (.int p4), .val (.ref av1), .val (.ref av3), .val (.ref av5), .val (.ref b6), .val (.ref b9), .val (.ref b12), .val (.int ((p4 &&& (2147483647 : Int32)) % (5 : Int32))), .val .null, .unset] [])) _
    refine XS.aconstNull X15.here hx rfl (hb hby at_62) ?_
    show Steps p.tables e below (T15.setTop (mkF m 63 #[.val (.int p1), .val (.int p2), .val (.int p3), .val (.int p4), .val (.ref av1), .val (.ref av3), .val (.ref av5), .val (.ref b6), .val (.ref b9), .val (.ref b12), .val (.int ((p4 &&& (2147483647 : Int32)) % (5 : Int32))), .val .null, .unset] [.null])) _
    refine XS.astore X15.here hx rfl (hb hby at_63) rfl rfl (l' := #[.val (.int p1), .val (.int p2), .val (.int p3), .val (.int p4), .val (.ref av1), .val (.ref av3), .val (.ref av5), .val (.ref b6), .val (.ref b9), .val (.ref b12), .val (.int ((p4 &&& (2147483647 : Int32)) % (5 : Int32))), .val .null, .val .null]) rfl ?_
    show Steps p.tables e below (T15.setTop (mkF m 65 #[.val (.int p1), .val (.int p2), .val (.int p3), .val (.int p4), .val (.ref av1), .val (.ref av3), .val (.ref av5), .val (.ref b6), .val (.ref b9), .val (.ref b12), .val (.int ((p4 &&& (2147483647 : Int32)) % (5 : Int32))), .val .null, .val .null] [])) _
    refine XS.iload X15.here hx rfl (hb hby at_65) rfl ?_
    show Steps p.tables e below (T15.setTop (mkF m 67 #[.val (.int p1), .val (.int p2), .val (.int p3), .val (.int p4), .val (.ref av1), .val (.ref av3), .val (.ref av5), .val (.ref b6), .val (.ref b9), .val (.ref b12), .val (.int ((p4 &&& (2147483647 : Int32)) % (5 : Int32))), .val .null, .val .null] [(.int ((p4 &&& (2147483647 : Int32)) % (5 : Int32)))])) _
    refine XS.iconst X15.here hx rfl (hb hby at_67) ?_
    show Steps p.tables e below (T15.setTop (mkF m 68 #[.val (.int p1), .val (.int p2), .val (.int p3), .val (.int p4), .val (.ref av1), .val (.ref av3), .val (.ref av5), .val (.ref b6), .val (.ref b9), .val (.ref b12), .val (.int ((p4 &&& (2147483647 : Int32)) % (5 : Int32))), .val .null, .val .null] [(.int (1 : Int32)), (.int ((p4 &&& (2147483647 : Int32)) % (5 : Int32)))])) _
    refine XS.icmpNo X15.here hx rfl (hb hby at_68) rfl (teq hc68).2 ?_
    show Steps p.tables e below (T15.setTop (mkF m 71 #[.val (.int p1), .val (.int p2), .val (.int p3), .val (.int p4), .val (.ref av1), .val (.ref av3), .val (.ref av5), .val (.ref b6), .val (.ref b9), .val (.ref b12), .val (.int ((p4 &&& (2147483647 : Int32)) % (5 : Int32))), .val .null, .val .null] [])) _
    refine XS.aload X15.here hx rfl (hb hby at_71) rfl rfl ?_
    show Steps p.tables e below (T15.setTop (mkF m 73 #[.val (.int p1), .val (.int p2), .val (.int p3), .val (.int p4), .val (.ref av1), .val (.ref av3), .val (.ref av5), .val (.ref b6), .val (.ref b9), .val (.ref b12), .val (.int ((p4 &&& (2147483647 : Int32)) % (5 : Int32))), .val .null, .val .null] [(.ref b9)])) _
    refine XS.aload X15.here hx rfl (hb hby at_73) rfl rfl ?_
    show Steps p.tables e below (T15.setTop (mkF m 75 #[.val (.int p1), .val (.int p2), .val (.int p3), .val (.int p4), .val (.ref av1), .val (.ref av3), .val (.ref av5), .val (.ref b6), .val (.ref b9), .val (.ref b12), .val (.int ((p4 &&& (2147483647 : Int32)) % (5 : Int32))), .val .null, .val .null] [(.ref b6), (.ref b9)])) _
    refine st51.trans ?_
    show Steps p.tables e below (T51.setTop (mkF m 78 #[.val (.int p1), .val (.int p2), .val (.int p3), .val (.int p4), .val (.ref av1), .val (.ref av3), .val (.ref av5), .val (.ref b6), .val (.ref b9), .val (.ref b12), .val (.int ((p4 &&& (2147483647 : Int32)) % (5 : Int32))), .val .null, .val .null] [])) _
    refine XS.aload X51.here hx rfl (hb hby at_78) rfl rfl ?_
    show Steps p.tables e below (T51.setTop (mkF m 80 #[.val (.int p1), .val (.int p2), .val (.int p3), .val (.int p4), .val (.ref av1), .val (.ref av3), .val (.ref av5), .val (.ref b6), .val (.ref b9), .val (.ref b12), .val (.int ((p4 &&& (2147483647 : Int32)) % (5 : Int32))), .val .null, .val .null] [(.ref av1)])) _
    refine XS.astore X51.here hx rfl (hb hby at_80) rfl rfl (l' := #[.val (.int p1), .val (.int p2), .val (.int p3), .val (.int p4), .val (.ref av1), .val (.ref av3), .val (.ref av5), .val (.ref b6), .val (.ref b9), .val (.ref b12), .val (.int ((p4 &&& (2147483647 : Int32)) % (5 : Int32))), .val (.ref av1), .val .null]) rfl ?_
    show Steps p.tables e below (T51.setTop (mkF m 82 #[.val (.int p1), .val (.int p2), .val (.int p3), .val (.int p4), .val (.ref av1), .val (.ref av3), .val (.ref av5), .val (.ref b6), .val (.ref b9), .val (.ref b12), .val (.int ((p4 &&& (2147483647 : Int32)) % (5 : Int32))), .val (.ref av1), .val .null] [])) _
    refine XS.goto X51.here hx rfl (pc0 := 82) (pc' := 175) rfl (hb hby at_82) (by decide) (by decide) ?_
    show Steps p.tables e below (T51.setTop (mkF m 175 #[.val (.int p1), .val (.int p2), .val (.int p3), .val (.int p4), .val (.ref av1), .val (.ref av3), .val (.ref av5), .val (.ref b6), .val (.ref b9), .val (.ref b12), .val (.int ((p4 &&& (2147483647 : Int32)) % (5 : Int32))), .val (.ref av1), .val .null] [])) _
    refine XS.aload X51.here hx rfl (hb hby at_175) rfl rfl ?_
    show Steps p.tables e below (T51.setTop (mkF m 177 #[.val (.int p1), .val (.int p2), .val (.int p3), .val (.int p4), .val (.ref av1), .val (.ref av3), .val (.ref av5), .val (.ref b6), .val (.ref b9), .val (.ref b12), .val (.int ((p4 &&& (2147483647 : Int32)) % (5 : Int32))), .val (.ref av1), .val .null] [(.ref b6)])) _
    refine st54.trans ?_
    show Steps p.tables e below (T54.setTop (mkF m 180 #[.val (.int p1), .val (.int p2), .val (.int p3), .val (.int p4), .val (.ref av1), .val (.ref av3), .val (.ref av5), .val (.ref b6), .val (.ref b9), .val (.ref b12), .val (.int ((p4 &&& (2147483647 : Int32)) % (5 : Int32))), .val (.ref av1), .val .null] [.null])) _
    refine XS.ifnonnullNo X54.here hx rfl (hb hby at_180) rfl ?_
    show Steps p.tables e below (T54.setTop (mkF m 183 #[.val (.int p1), .val (.int p2), .val (.int p3), .val (.int p4), .val (.ref av1), .val (.ref av3), .val (.ref av5), .val (.ref b6), .val (.ref b9), .val (.ref b12), .val (.int ((p4 &&& (2147483647 : Int32)) % (5 : Int32))), .val (.ref av1), .val .null] [])) _
    refine XS.aload X54.here hx rfl (hb hby at_183) rfl rfl ?_
    show Steps p.tables e below (T54.setTop (mkF m 185 #[.val (.int p1), .val (.int p2), .val (.int p3), .val (.int p4), .val (.ref av1), .val (.ref av3), .val (.ref av5), .val (.ref b6), .val (.ref b9), .val (.ref b12), .val (.int ((p4 &&& (2147483647 : Int32)) % (5 : Int32))), .val (.ref av1), .val .null] [(.ref b9)])) _
    refine st55.trans ?_
    show Steps p.tables e below (T55.setTop (mkF m 188 #[.val (.int p1), .val (.int p2), .val (.int p3), .val (.int p4), .val (.ref av1), .val (.ref av3), .val (.ref av5), .val (.ref b6), .val (.ref b9), .val (.ref b12), .val (.int ((p4 &&& (2147483647 : Int32)) % (5 : Int32))), .val (.ref av1), .val .null] [(.ref av1)])) _
    refine XS.aload X55.here hx rfl (hb hby at_188) rfl rfl ?_
    show Steps p.tables e below (T55.setTop (mkF m 190 #[.val (.int p1), .val (.int p2), .val (.int p3), .val (.int p4), .val (.ref av1), .val (.ref av3), .val (.ref av5), .val (.ref b6), .val (.ref b9), .val (.ref b12), .val (.int ((p4 &&& (2147483647 : Int32)) % (5 : Int32))), .val (.ref av1), .val .null] [(.ref av1), (.ref av1)])) _
    refine Jvm.RoadKit.acmp (g := (mkF m 190 #[.val (.int p1), .val (.int p2), .val (.int p3), .val (.int p4), .val (.ref av1), .val (.ref av3), .val (.ref av5), .val (.ref b6), .val (.ref b9), .val (.ref b12), .val (.int ((p4 &&& (2147483647 : Int32)) % (5 : Int32))), .val (.ref av1), .val .null] [(.ref av1), (.ref av1)])) X55 hx rfl rfl rfl (pc0 := 190) (pc' := 193) (same := true) rfl (hb hby at_190) rfl (decide_eq_true rfl) (by decide) (by decide) ?_
    show Steps p.tables e below (T55.setTop (mkF m 193 #[.val (.int p1), .val (.int p2), .val (.int p3), .val (.int p4), .val (.ref av1), .val (.ref av3), .val (.ref av5), .val (.ref b6), .val (.ref b9), .val (.ref b12), .val (.int ((p4 &&& (2147483647 : Int32)) % (5 : Int32))), .val (.ref av1), .val .null] [])) _
    refine XS.aload X55.here hx rfl (hb hby at_193) rfl rfl ?_
    show Steps p.tables e below (T55.setTop (mkF m 195 #[.val (.int p1), .val (.int p2), .val (.int p3), .val (.int p4), .val (.ref av1), .val (.ref av3), .val (.ref av5), .val (.ref b6), .val (.ref b9), .val (.ref b12), .val (.int ((p4 &&& (2147483647 : Int32)) % (5 : Int32))), .val (.ref av1), .val .null] [(.ref b12)])) _
    refine st57.trans ?_
    show Steps p.tables e below (T57.setTop (mkF m 198 #[.val (.int p1), .val (.int p2), .val (.int p3), .val (.int p4), .val (.ref av1), .val (.ref av3), .val (.ref av5), .val (.ref b6), .val (.ref b9), .val (.ref b12), .val (.int ((p4 &&& (2147483647 : Int32)) % (5 : Int32))), .val (.ref av1), .val .null] [.null])) _
    refine XS.aload X57.here hx rfl (hb hby at_198) rfl rfl ?_
    show Steps p.tables e below (T57.setTop (mkF m 200 #[.val (.int p1), .val (.int p2), .val (.int p3), .val (.int p4), .val (.ref av1), .val (.ref av3), .val (.ref av5), .val (.ref b6), .val (.ref b9), .val (.ref b12), .val (.int ((p4 &&& (2147483647 : Int32)) % (5 : Int32))), .val (.ref av1), .val .null] [.null, .null])) _
    refine Jvm.RoadKit.acmp (g := (mkF m 200 #[.val (.int p1), .val (.int p2), .val (.int p3), .val (.int p4), .val (.ref av1), .val (.ref av3), .val (.ref av5), .val (.ref b6), .val (.ref b9), .val (.ref b12), .val (.int ((p4 &&& (2147483647 : Int32)) % (5 : Int32))), .val (.ref av1), .val .null] [.null, .null])) X57 hx rfl rfl rfl (pc0 := 200) (pc' := 203) (same := true) rfl (hb hby at_200) rfl (decide_eq_true rfl) (by decide) (by decide) ?_
    show Steps p.tables e below (T57.setTop (mkF m 203 #[.val (.int p1), .val (.int p2), .val (.int p3), .val (.int p4), .val (.ref av1), .val (.ref av3), .val (.ref av5), .val (.ref b6), .val (.ref b9), .val (.ref b12), .val (.int ((p4 &&& (2147483647 : Int32)) % (5 : Int32))), .val (.ref av1), .val .null] [])) _
    refine XS.iconst X57.here hx rfl (hb hby at_203) ?_
    show Steps p.tables e below (T57.setTop (mkF m 204 #[.val (.int p1), .val (.int p2), .val (.int p3), .val (.int p4), .val (.ref av1), .val (.ref av3), .val (.ref av5), .val (.ref b6), .val (.ref b9), .val (.ref b12), .val (.int ((p4 &&& (2147483647 : Int32)) % (5 : Int32))), .val (.ref av1), .val .null] [(.int (1 : Int32))])) _
    refine XS.goto X57.here hx rfl (pc0 := 204) (pc' := 208) rfl (hb hby at_204) (by decide) (by decide) ?_
    show Steps p.tables e below (T57.setTop (mkF m 208 #[.val (.int p1), .val (.int p2), .val (.int p3), .val (.int p4), .val (.ref av1), .val (.ref av3), .val (.ref av5), .val (.ref b6), .val (.ref b9), .val (.ref b12), .val (.int ((p4 &&& (2147483647 : Int32)) % (5 : Int32))), .val (.ref av1), .val .null] [(.int (1 : Int32))])) _
    exact retN X57 hx (t := .boolean) Bd.returns (by simp) (hb hby at_208) hr
  · show QF h0 n0 _ T57.heap _
    rw [e57]
    exact ⟨rfl, N57⟩
set_option maxRecDepth 65536 in
set_option maxHeartbeats 40000000 in
theorem rm0_2 (l : Launch) (Z : State) (a0 : Array Value) (hw : ∀ d ∈ tables_1, d.before a0 Z = true) (ws : List Jvm.Cond) (p1 : Int32) (p2 : Int32) (p3 : Int32) (p4 : Int32) (cb : Addr) (h0 : Heap) (n0 : Nat) (Z0 : n0 ≤ h0.size) (O0 : Old Z n0 h0) (SHZ : Sta Z Z.heap "java/lang/Integer$IntegerCache" "high" "I" (.int (127 : Int32))) (SCZ : Sta Z Z.heap "java/lang/Integer$IntegerCache" "cache" "[Ljava/lang/Integer;" (.ref cb)) (LC : ICache Z cb) (hc68 : ¬ (((p4 &&& (2147483647 : Int32)) % (5 : Int32)) = (1 : Int32))) (hc88 : ((p4 &&& (2147483647 : Int32)) % (5 : Int32)) = (2 : Int32)) :
    MetFree l x (head1 (Jvm.Cond.code x code maxLocals ret :: ws) room_1) (fun aa U => aa = #[(.int p1), (.int p2), (.int p3), (.int p4)] ∧ Z.Warmed39 U.vm ∧ U.heap = h0) (fun _ _ _ _ _ => True) (fun _ U o U' => ∃ v L, o = .returned v ∧ QF h0 n0 v U'.heap L ∧ FrameEnd U o U' L room_1.cells room_1.slots) := by
  refine MetFree.of_bodySF (plainFor_of_name pn_com_example_framelatch_framelatch_PlaceParentPinLaw) hisR ?_
  intro p e s m args below meth c s₁ Bd hml0 hP hK
  obtain ⟨rfl, hZ, hh⟩ := hP
  have hx := Bd.exec
  have hby := Bd.bytes
  have hml : c.maxLocals = 13 := hml0
  have hown : s.vm.findClass "com/example/framelatch/framelatch/PlaceParentPinLaw" = some m.cls := findClass_of_methodNamed Bd.named
  have hnm := (name_of_methodNamed Bd.named Bd.method).1
  have X0 : Stand p l e room_1 s m #[(.int p1), (.int p2), (.int p3), (.int p4)] below meth c s₁ [] 0 0 := Stand.of_body Bd
  have e0 : s₁.heap = h0 := by rw [← hh, Bd.state]; rfl
  have N0 := Fr.nil n0
  have pre0 : ∀ t, Steps p.tables e below (s₁.setTop (mkF m 0 #[.val (.int p1), .val (.int p2), .val (.int p3), .val (.int p4), .unset, .unset, .unset, .unset, .unset, .unset, .unset, .unset, .unset] [])) t → Steps p.tables e below (s₁.setTop (entryFrame m #[(.int p1), (.int p2), (.int p3), (.int p4)] maxLocals)) t := fun t k => castTop (ef_0 m p1 p2 p3 p4) k
  obtain ⟨_, _, ⟨T1, L1, k1, n1⟩, -, X1, ⟨Lc1, hQ1, l1, y1, z1⟩, st1⟩ := Jvm.LawKit.callS X0 hx (y := nm_1) hown (mvT hZ (ow hw 0 rfl)) (mvT hZ (ow hw 1 rfl)) (mvT hZ (ow hw 2 rfl)) (mvT hZ (ow hw 3 rfl)) (by decide) (backOf (W := 0) (rm1 l Z a0 hw [] p1 cb h0 n0 Z0 O0 SHZ SCZ LC) hZ (ow hw 3 rfl) (ow hw 2 rfl) (by decide) (by decide)) (g := (mkF m 1 #[.val (.int p1), .val (.int p2), .val (.int p3), .val (.int p4), .unset, .unset, .unset, .unset, .unset, .unset, .unset, .unset, .unset] [(.int p1)])) rfl (by rw [hml]; rfl) (argsL := [(.int p1)]) (rest := []) (lenOf pd_0 rfl) rfl (by show 2 * 0 + _ ≤ _; exact Nat.le_of_eq rfl) (hb hby at_1) (fun _ _ => ⟨rfl, e0, (by decide : 0 + 1 ≤ _), (by decide : 0 + 1 ≤ _)⟩)
  dsimp only [Pt.U, Pt.locs, Pt.cells, Pt.slots] at X1 l1 y1 z1 st1 hQ1
  subst l1 y1 z1
  obtain ⟨av1, rfl, N1q, Ev1⟩ := hQ1
  have N1 := Fr.app N0 N1q
  have c2 := O0.ext Ev1
  obtain ⟨_, _, ⟨T3, L3, k3, n3⟩, -, X3, ⟨Lc3, hQ3, l3, y3, z3⟩, st3⟩ := Jvm.LawKit.callS X1 hx (y := nm_1) hown (mvT hZ (ow hw 0 rfl)) (mvT hZ (ow hw 1 rfl)) (mvT hZ (ow hw 2 rfl)) (mvT hZ (ow hw 3 rfl)) (by decide) (backOf (W := 0) (rm1 l Z a0 hw [] p2 cb T1.heap n0 (Nat.le_trans Z0 Ev1.1) c2 SHZ SCZ LC) hZ (ow hw 3 rfl) (ow hw 2 rfl) (by decide) (by decide)) (g := (mkF m 7 #[.val (.int p1), .val (.int p2), .val (.int p3), .val (.int p4), .val (.ref av1), .unset, .unset, .unset, .unset, .unset, .unset, .unset, .unset] [(.int p2)])) rfl (by rw [hml]; rfl) (argsL := [(.int p2)]) (rest := []) (lenOf pd_0 rfl) rfl (by show 2 * 0 + _ ≤ _; exact Nat.le_of_eq rfl) (hb hby at_7) (fun _ _ => ⟨rfl, rfl, (by decide : 1 + 1 ≤ _), (by decide : 1 + 1 ≤ _)⟩)
  dsimp only [Pt.U, Pt.locs, Pt.cells, Pt.slots] at X3 l3 y3 z3 st3 hQ3
  subst l3 y3 z3
  obtain ⟨av3, rfl, N3q, Ev3⟩ := hQ3
  have N3 := Fr.app N1 N3q
  have c4 := c2.ext Ev3
  obtain ⟨_, _, ⟨T5, L5, k5, n5⟩, -, X5, ⟨Lc5, hQ5, l5, y5, z5⟩, st5⟩ := Jvm.LawKit.callS X3 hx (y := nm_1) hown (mvT hZ (ow hw 0 rfl)) (mvT hZ (ow hw 1 rfl)) (mvT hZ (ow hw 2 rfl)) (mvT hZ (ow hw 3 rfl)) (by decide) (backOf (W := 0) (rm1 l Z a0 hw [] p3 cb T3.heap n0 (Nat.le_trans (Nat.le_trans Z0 Ev1.1) Ev3.1) c4 SHZ SCZ LC) hZ (ow hw 3 rfl) (ow hw 2 rfl) (by decide) (by decide)) (g := (mkF m 13 #[.val (.int p1), .val (.int p2), .val (.int p3), .val (.int p4), .val (.ref av1), .val (.ref av3), .unset, .unset, .unset, .unset, .unset, .unset, .unset] [(.int p3)])) rfl (by rw [hml]; rfl) (argsL := [(.int p3)]) (rest := []) (lenOf pd_0 rfl) rfl (by show 2 * 0 + _ ≤ _; exact Nat.le_of_eq rfl) (hb hby at_13) (fun _ _ => ⟨rfl, rfl, (by decide : 2 + 1 ≤ _), (by decide : 2 + 1 ≤ _)⟩)
  dsimp only [Pt.U, Pt.locs, Pt.cells, Pt.slots] at X5 l5 y5 z5 st5 hQ5
  subst l5 y5 z5
  obtain ⟨av5, rfl, N5q, Ev5⟩ := hQ5
  have N5 := Fr.app N3 N5q
  obtain ⟨T6, h6, X6, e6, E6, A6, D6, -, st6⟩ := newO X5 hx hZ hown (ow hw 7 rfl) (ow hw 8 rfl) (ow hw 9 rfl) rfl (g := (mkF m 18 #[.val (.int p1), .val (.int p2), .val (.int p3), .val (.int p4), .val (.ref av1), .val (.ref av3), .val (.ref av5), .unset, .unset, .unset, .unset, .unset, .unset] [])) rfl (hb hby at_18) (by decide) (by decide)
  obtain ⟨b6, g_b6⟩ : ∃ z, z = T5.heap.size := ⟨_, rfl⟩
  rw [← g_b6] at A6 D6 st6
  have g0_b6 : n0 ≤ b6 := Nat.le_trans (Nat.le_trans (Nat.le_trans (Nat.le_trans Z0 Ev1.1) Ev3.1) Ev5.1) (Nat.le_of_eq g_b6.symm)
  have sz_b6 : h0.size ≤ b6 := Nat.le_trans (Nat.le_trans (Nat.le_trans (Nat.le_trans (Nat.le_refl _) Ev1.1) Ev3.1) Ev5.1) (Nat.le_of_eq g_b6.symm)
  have F_node_b6 : Fld Z h6 b6 "com/example/framelatch/framelatch/Tree$Place" "node" "Ljava/lang/Object;" .null := D6 (Or.inr (ow hw 17 rfl)) (ty := (.object "java/lang/Object")) (by decide)
  have F_top_b6 : Fld Z h6 b6 "com/example/framelatch/framelatch/Tree$Place" "top" "Ljava/lang/Object;" .null := D6 (Or.inl (ow hw 19 rfl)) (ty := (.object "java/lang/Object")) (by decide)
  have F_parent_b6 : Fld Z h6 b6 "com/example/framelatch/framelatch/Tree$Place" "parent" "Lcom/example/framelatch/framelatch/Tree$Place;" .null := D6 (Or.inl (ow hw 27 rfl)) (ty := (.object "com/example/framelatch/framelatch/Tree$Place")) (by decide)
  have F_link_b6 : Fld Z h6 b6 "com/example/framelatch/framelatch/Tree$Place" "link" "Lcom/example/framelatch/framelatch/Tree$Place;" .null := D6 (Or.inl (ow hw 33 rfl)) (ty := (.object "com/example/framelatch/framelatch/Tree$Place")) (by decide)
  have F_rank_b6 : Fld Z h6 b6 "com/example/framelatch/framelatch/Tree$Place" "rank" "I" (.int (0 : Int32)) := D6 (Or.inl (ow hw 35 rfl)) (ty := .int) (by decide)
  obtain ⟨_, _, ⟨T7, L7, k7, n7⟩, -, X7, ⟨Lc7, hQ7, l7, y7, z7⟩, st7⟩ := X6.specialBack hx (y := nm_2) rfl hown (mvT hZ (ow hw 10 rfl)) (mvT hZ (ow hw 11 rfl)) (mvT hZ (ow hw 12 rfl)) (by decide) (backOf (W := 1) (rm2 l Z a0 hw [] b6 av1 h6 n0 (Nat.le_trans (Nat.le_trans (Nat.le_trans (Nat.le_trans Z0 Ev1.1) Ev3.1) Ev5.1) E6.1) g0_b6 ⟨A6, F_node_b6, F_top_b6, F_parent_b6, F_link_b6, F_rank_b6⟩) hZ (ow hw 12 rfl) (ow hw 9 rfl) (by decide) (by decide)) (g := (mkF m 24 #[.val (.int p1), .val (.int p2), .val (.int p3), .val (.int p4), .val (.ref av1), .val (.ref av3), .val (.ref av5), .unset, .unset, .unset, .unset, .unset, .unset] [(.ref av1), (.ref b6), (.ref b6)])) rfl (by rw [hml]; rfl) (Steps.refl _) (a := b6) (argsL := [(.ref av1)]) (rest := [(.ref b6)]) (lenOf pd_1 rfl) rfl (by show 2 * 0 + _ ≤ _; exact Nat.le_of_eq rfl) (hb hby at_24) (fun _ _ => ⟨rfl, e6, (by decide : 4 + 0 ≤ _), (by decide : 8 + 0 ≤ _)⟩)
  dsimp only [Pt.U, Pt.locs, Pt.cells, Pt.slots] at X7 l7 y7 z7 st7 hQ7
  subst l7 y7 z7
  obtain ⟨rfl, N7q, K7, PB7⟩ := hQ7
  have N7 := Fr.app N5 N7q
  obtain ⟨Epl8, Fapl8, Fbpl8, Fcpl8, Fdpl8, Fepl8⟩ := PB7
  obtain ⟨T9, h9, X9, e9, E9, A9, D9, -, st9⟩ := newO X7 hx hZ hown (ow hw 7 rfl) (ow hw 8 rfl) (ow hw 9 rfl) rfl (g := (mkF m 29 #[.val (.int p1), .val (.int p2), .val (.int p3), .val (.int p4), .val (.ref av1), .val (.ref av3), .val (.ref av5), .val (.ref b6), .unset, .unset, .unset, .unset, .unset] [])) rfl (hb hby at_29) (by decide) (by decide)
  obtain ⟨b9, g_b9⟩ : ∃ z, z = T7.heap.size := ⟨_, rfl⟩
  rw [← g_b9] at A9 D9 st9
  have g0_b9 : n0 ≤ b9 := Nat.le_trans (Nat.le_trans (Nat.le_trans (Nat.le_trans (Nat.le_trans (Nat.le_trans Z0 Ev1.1) Ev3.1) Ev5.1) E6.1) K7.1) (Nat.le_of_eq g_b9.symm)
  have sz_b9 : h0.size ≤ b9 := Nat.le_trans (Nat.le_trans (Nat.le_trans (Nat.le_trans (Nat.le_trans (Nat.le_trans (Nat.le_refl _) Ev1.1) Ev3.1) Ev5.1) E6.1) K7.1) (Nat.le_of_eq g_b9.symm)
  have ne_b6_b9 : b6 ≠ b9 := Nat.ne_of_lt (Nat.lt_of_lt_of_le Epl8.lt (Nat.le_of_eq g_b9.symm))
  have F_node_b9 : Fld Z h9 b9 "com/example/framelatch/framelatch/Tree$Place" "node" "Ljava/lang/Object;" .null := D9 (Or.inr (ow hw 17 rfl)) (ty := (.object "java/lang/Object")) (by decide)
  have F_top_b9 : Fld Z h9 b9 "com/example/framelatch/framelatch/Tree$Place" "top" "Ljava/lang/Object;" .null := D9 (Or.inl (ow hw 19 rfl)) (ty := (.object "java/lang/Object")) (by decide)
  have F_parent_b9 : Fld Z h9 b9 "com/example/framelatch/framelatch/Tree$Place" "parent" "Lcom/example/framelatch/framelatch/Tree$Place;" .null := D9 (Or.inl (ow hw 27 rfl)) (ty := (.object "com/example/framelatch/framelatch/Tree$Place")) (by decide)
  have F_link_b9 : Fld Z h9 b9 "com/example/framelatch/framelatch/Tree$Place" "link" "Lcom/example/framelatch/framelatch/Tree$Place;" .null := D9 (Or.inl (ow hw 33 rfl)) (ty := (.object "com/example/framelatch/framelatch/Tree$Place")) (by decide)
  have F_rank_b9 : Fld Z h9 b9 "com/example/framelatch/framelatch/Tree$Place" "rank" "I" (.int (0 : Int32)) := D9 (Or.inl (ow hw 35 rfl)) (ty := .int) (by decide)
  obtain ⟨_, _, ⟨T10, L10, k10, n10⟩, -, X10, ⟨Lc10, hQ10, l10, y10, z10⟩, st10⟩ := X9.specialBack hx (y := nm_2) rfl hown (mvT hZ (ow hw 10 rfl)) (mvT hZ (ow hw 11 rfl)) (mvT hZ (ow hw 12 rfl)) (by decide) (backOf (W := 1) (rm2 l Z a0 hw [] b9 av3 h9 n0 (Nat.le_trans (Nat.le_trans (Nat.le_trans (Nat.le_trans (Nat.le_trans (Nat.le_trans Z0 Ev1.1) Ev3.1) Ev5.1) E6.1) K7.1) E9.1) g0_b9 ⟨A9, F_node_b9, F_top_b9, F_parent_b9, F_link_b9, F_rank_b9⟩) hZ (ow hw 12 rfl) (ow hw 9 rfl) (by decide) (by decide)) (g := (mkF m 35 #[.val (.int p1), .val (.int p2), .val (.int p3), .val (.int p4), .val (.ref av1), .val (.ref av3), .val (.ref av5), .val (.ref b6), .unset, .unset, .unset, .unset, .unset] [(.ref av3), (.ref b9), (.ref b9)])) rfl (by rw [hml]; rfl) (Steps.refl _) (a := b9) (argsL := [(.ref av3)]) (rest := [(.ref b9)]) (lenOf pd_1 rfl) rfl (by show 2 * 0 + _ ≤ _; exact Nat.le_of_eq rfl) (hb hby at_35) (fun _ _ => ⟨rfl, e9, (by decide : 5 + 0 ≤ _), (by decide : 13 + 0 ≤ _)⟩)
  dsimp only [Pt.U, Pt.locs, Pt.cells, Pt.slots] at X10 l10 y10 z10 st10 hQ10
  subst l10 y10 z10
  obtain ⟨rfl, N10q, K10, PB10⟩ := hQ10
  have N10 := Fr.app N7 N10q
  obtain ⟨Epl11, Fapl11, Fbpl11, Fcpl11, Fdpl11, Fepl11⟩ := PB10
  obtain ⟨T12, h12, X12, e12, E12, A12, D12, -, st12⟩ := newO X10 hx hZ hown (ow hw 7 rfl) (ow hw 8 rfl) (ow hw 9 rfl) rfl (g := (mkF m 40 #[.val (.int p1), .val (.int p2), .val (.int p3), .val (.int p4), .val (.ref av1), .val (.ref av3), .val (.ref av5), .val (.ref b6), .val (.ref b9), .unset, .unset, .unset, .unset] [])) rfl (hb hby at_40) (by decide) (by decide)
  obtain ⟨b12, g_b12⟩ : ∃ z, z = T10.heap.size := ⟨_, rfl⟩
  rw [← g_b12] at A12 D12 st12
  have g0_b12 : n0 ≤ b12 := Nat.le_trans (Nat.le_trans (Nat.le_trans (Nat.le_trans (Nat.le_trans (Nat.le_trans (Nat.le_trans (Nat.le_trans Z0 Ev1.1) Ev3.1) Ev5.1) E6.1) K7.1) E9.1) K10.1) (Nat.le_of_eq g_b12.symm)
  have sz_b12 : h0.size ≤ b12 := Nat.le_trans (Nat.le_trans (Nat.le_trans (Nat.le_trans (Nat.le_trans (Nat.le_trans (Nat.le_trans (Nat.le_trans (Nat.le_refl _) Ev1.1) Ev3.1) Ev5.1) E6.1) K7.1) E9.1) K10.1) (Nat.le_of_eq g_b12.symm)
  have c13 := Epl8.ext E9
  have c14 := c13.keep K10
  have ne_b6_b12 : b6 ≠ b12 := Nat.ne_of_lt (Nat.lt_of_lt_of_le c14.lt (Nat.le_of_eq g_b12.symm))
  have ne_b9_b12 : b9 ≠ b12 := Nat.ne_of_lt (Nat.lt_of_lt_of_le Epl11.lt (Nat.le_of_eq g_b12.symm))
  have F_node_b12 : Fld Z h12 b12 "com/example/framelatch/framelatch/Tree$Place" "node" "Ljava/lang/Object;" .null := D12 (Or.inr (ow hw 17 rfl)) (ty := (.object "java/lang/Object")) (by decide)
  have F_top_b12 : Fld Z h12 b12 "com/example/framelatch/framelatch/Tree$Place" "top" "Ljava/lang/Object;" .null := D12 (Or.inl (ow hw 19 rfl)) (ty := (.object "java/lang/Object")) (by decide)
  have F_parent_b12 : Fld Z h12 b12 "com/example/framelatch/framelatch/Tree$Place" "parent" "Lcom/example/framelatch/framelatch/Tree$Place;" .null := D12 (Or.inl (ow hw 27 rfl)) (ty := (.object "com/example/framelatch/framelatch/Tree$Place")) (by decide)
  have F_link_b12 : Fld Z h12 b12 "com/example/framelatch/framelatch/Tree$Place" "link" "Lcom/example/framelatch/framelatch/Tree$Place;" .null := D12 (Or.inl (ow hw 33 rfl)) (ty := (.object "com/example/framelatch/framelatch/Tree$Place")) (by decide)
  have F_rank_b12 : Fld Z h12 b12 "com/example/framelatch/framelatch/Tree$Place" "rank" "I" (.int (0 : Int32)) := D12 (Or.inl (ow hw 35 rfl)) (ty := .int) (by decide)
  obtain ⟨_, _, ⟨T15, L15, k15, n15⟩, -, X15, ⟨Lc15, hQ15, l15, y15, z15⟩, st15⟩ := X12.specialBack hx (y := nm_2) rfl hown (mvT hZ (ow hw 10 rfl)) (mvT hZ (ow hw 11 rfl)) (mvT hZ (ow hw 12 rfl)) (by decide) (backOf (W := 1) (rm2 l Z a0 hw [] b12 av5 h12 n0 (Nat.le_trans (Nat.le_trans (Nat.le_trans (Nat.le_trans (Nat.le_trans (Nat.le_trans (Nat.le_trans (Nat.le_trans Z0 Ev1.1) Ev3.1) Ev5.1) E6.1) K7.1) E9.1) K10.1) E12.1) g0_b12 ⟨A12, F_node_b12, F_top_b12, F_parent_b12, F_link_b12, F_rank_b12⟩) hZ (ow hw 12 rfl) (ow hw 9 rfl) (by decide) (by decide)) (g := (mkF m 46 #[.val (.int p1), .val (.int p2), .val (.int p3), .val (.int p4), .val (.ref av1), .val (.ref av3), .val (.ref av5), .val (.ref b6), .val (.ref b9), .unset, .unset, .unset, .unset] [(.ref av5), (.ref b12), (.ref b12)])) rfl (by rw [hml]; rfl) (Steps.refl _) (a := b12) (argsL := [(.ref av5)]) (rest := [(.ref b12)]) (lenOf pd_1 rfl) rfl (by show 2 * 0 + _ ≤ _; exact Nat.le_of_eq rfl) (hb hby at_46) (fun _ _ => ⟨rfl, e12, (by decide : 6 + 0 ≤ _), (by decide : 18 + 0 ≤ _)⟩)
  dsimp only [Pt.U, Pt.locs, Pt.cells, Pt.slots] at X15 l15 y15 z15 st15 hQ15
  subst l15 y15 z15
  obtain ⟨rfl, N15q, K15, PB15⟩ := hQ15
  have N15 := Fr.app N10 N15q
  obtain ⟨Epl16, Fapl16, Fbpl16, Fcpl16, Fdpl16, Fepl16⟩ := PB15
  have c17 := Epl11.ext E12
  have c18 := c17.keep K15
  have c19 := Fapl11.ext E12
  have c20 := c19.keep K15 (ninS ne_b9_b12 nin0)
  have c21 := Fbpl11.ext E12
  have c22 := c21.keep K15 (ninS ne_b9_b12 nin0)
  have c23 := Fcpl11.ext E12
  have c24 := c23.keep K15 (ninS ne_b9_b12 nin0)
  have c25 := Fdpl11.ext E12
  have c26 := c25.keep K15 (ninS ne_b9_b12 nin0)
  have c27 := Fepl11.ext E12
  have c28 := c27.keep K15 (ninS ne_b9_b12 nin0)
  have c29 := c14.ext E12
  have c30 := c29.keep K15
  have c31 := Fapl8.ext E9
  have c32 := c31.keep K10 (ninS ne_b6_b9 nin0)
  have c33 := c32.ext E12
  have c34 := c33.keep K15 (ninS ne_b6_b12 nin0)
  have c35 := Fbpl8.ext E9
  have c36 := c35.keep K10 (ninS ne_b6_b9 nin0)
  have c37 := c36.ext E12
  have c38 := c37.keep K15 (ninS ne_b6_b12 nin0)
  have c39 := Fcpl8.ext E9
  have c40 := c39.keep K10 (ninS ne_b6_b9 nin0)
  have c41 := c40.ext E12
  have c42 := c41.keep K15 (ninS ne_b6_b12 nin0)
  have c43 := Fdpl8.ext E9
  have c44 := c43.keep K10 (ninS ne_b6_b9 nin0)
  have c45 := c44.ext E12
  have c46 := c45.keep K15 (ninS ne_b6_b12 nin0)
  have c47 := Fepl8.ext E9
  have c48 := c47.keep K10 (ninS ne_b6_b9 nin0)
  have c49 := c48.ext E12
  have c50 := c49.keep K15 (ninS ne_b6_b12 nin0)
  obtain ⟨cq51, kq51, q51a, q51b, q51c⟩ := isOf hZ rfl c18
  obtain ⟨_, _, ⟨T51, L51, k51, n51⟩, -, X51, ⟨Lc51, hQ51, l51, y51, z51⟩, st51⟩ := X15.virtualBack hx (y := nm_4) (z := nm_4) hown (mvT hZ (ow hw 21 rfl)) (mvT hZ (ow hw 22 rfl)) (notFace_of_selects (args := #[]) (mvT hZ (ow hw 24 rfl))) (mvT hZ (ow hw 24 rfl)) (mvT hZ (ow hw 23 rfl)) (by decide) (backOf (W := 0) (rm4_A l Z a0 hw [] b9 b6 (.ref av3) (.ref av3) .null (0 : Int32) (.ref av1) av1 .null (0 : Int32) T15.heap n0 (Nat.le_trans (Nat.le_trans (Nat.le_trans (Nat.le_trans (Nat.le_trans (Nat.le_trans (Nat.le_trans (Nat.le_trans (Nat.le_trans Z0 Ev1.1) Ev3.1) Ev5.1) E6.1) K7.1) E9.1) K10.1) E12.1) K15.1) (Ne.symm ne_b6_b9) g0_b9 g0_b6 ⟨c18, c20, c22, c24, c26, c28⟩ ⟨c30, c34, c38, c42, c46, c50⟩ (by decide) (by decide)) hZ (ow hw 25 rfl) (ow hw 9 rfl) (by decide) (by decide)) q51a q51c (g := (mkF m 95 #[.val (.int p1), .val (.int p2), .val (.int p3), .val (.int p4), .val (.ref av1), .val (.ref av3), .val (.ref av5), .val (.ref b6), .val (.ref b9), .val (.ref b12), .val (.int ((p4 &&& (2147483647 : Int32)) % (5 : Int32))), .val .null, .val .null] [(.ref b6), (.ref b9)])) rfl (by rw [hml]; rfl) (Steps.refl _) (argsL := [(.ref b6)]) (rest := []) (lenOf pd_3 rfl) rfl (by show 2 * 0 + _ ≤ _; exact Nat.le_of_eq rfl) (hb hby at_95) (fun _ _ => ⟨rfl, rfl, (by decide : 6 + 0 ≤ _), (by decide : 18 + 0 ≤ _)⟩)
  dsimp only [Pt.U, Pt.locs, Pt.cells, Pt.slots] at X51 l51 y51 z51 st51 hQ51
  subst l51 y51 z51
  obtain ⟨rfl, N51q, K51, Pu51, Pw51⟩ := hQ51
  have N51 := Fr.app N15 N51q
  obtain ⟨Epl52, Fapl52, Fbpl52, Fcpl52, Fdpl52, Fepl52⟩ := Pu51
  obtain ⟨Epl53, Fapl53, Fbpl53, Fcpl53, Fdpl53, Fepl53⟩ := Pw51
  have c54 := Epl16.keep K51
  have c55 := Fapl16.keep K51 (ninS (Ne.symm ne_b9_b12) (ninS (Ne.symm ne_b6_b12) nin0))
  have c56 := Fbpl16.keep K51 (ninS (Ne.symm ne_b9_b12) (ninS (Ne.symm ne_b6_b12) nin0))
  have c57 := Fcpl16.keep K51 (ninS (Ne.symm ne_b9_b12) (ninS (Ne.symm ne_b6_b12) nin0))
  have c58 := Fdpl16.keep K51 (ninS (Ne.symm ne_b9_b12) (ninS (Ne.symm ne_b6_b12) nin0))
  have c59 := Fepl16.keep K51 (ninS (Ne.symm ne_b9_b12) (ninS (Ne.symm ne_b6_b12) nin0))
  obtain ⟨cq60, kq60, q60a, q60b, q60c⟩ := isOf hZ rfl c54
  obtain ⟨_, _, ⟨T60, L60, k60, n60⟩, -, X60, ⟨Lc60, hQ60, l60, y60, z60⟩, st60⟩ := X51.virtualBack hx (y := nm_4) (z := nm_4) hown (mvT hZ (ow hw 21 rfl)) (mvT hZ (ow hw 22 rfl)) (notFace_of_selects (args := #[]) (mvT hZ (ow hw 24 rfl))) (mvT hZ (ow hw 24 rfl)) (mvT hZ (ow hw 23 rfl)) (by decide) (backOf (W := 0) (rm4_B l Z a0 hw [] b12 b9 b6 (.ref av5) (.ref av5) .null (0 : Int32) (.ref av3) .null (.ref b6) (0 : Int32) (.ref av1) (.ref av1) .null ((0 : Int32) + (1 : Int32)) T51.heap n0 (Nat.le_trans (Nat.le_trans (Nat.le_trans (Nat.le_trans (Nat.le_trans (Nat.le_trans (Nat.le_trans (Nat.le_trans (Nat.le_trans (Nat.le_trans Z0 Ev1.1) Ev3.1) Ev5.1) E6.1) K7.1) E9.1) K10.1) E12.1) K15.1) K51.1) (Ne.symm ne_b9_b12) (Ne.symm ne_b6_b12) g0_b12 ⟨c54, c55, c56, c57, c58, c59⟩ ⟨Epl52, Fapl52, Fbpl52, Fcpl52, Fdpl52, Fepl52⟩ ⟨Epl53, Fapl53, Fbpl53, Fcpl53, Fdpl53, Fepl53⟩ (by decide) (by decide)) hZ (ow hw 25 rfl) (ow hw 9 rfl) (by decide) (by decide)) q60a q60c (g := (mkF m 102 #[.val (.int p1), .val (.int p2), .val (.int p3), .val (.int p4), .val (.ref av1), .val (.ref av3), .val (.ref av5), .val (.ref b6), .val (.ref b9), .val (.ref b12), .val (.int ((p4 &&& (2147483647 : Int32)) % (5 : Int32))), .val .null, .val .null] [(.ref b9), (.ref b12)])) rfl (by rw [hml]; rfl) (Steps.refl _) (argsL := [(.ref b9)]) (rest := []) (lenOf pd_3 rfl) rfl (by show 2 * 0 + _ ≤ _; exact Nat.le_of_eq rfl) (hb hby at_102) (fun _ _ => ⟨rfl, rfl, (by decide : 6 + 0 ≤ _), (by decide : 18 + 0 ≤ _)⟩)
  dsimp only [Pt.U, Pt.locs, Pt.cells, Pt.slots] at X60 l60 y60 z60 st60 hQ60
  subst l60 y60 z60
  obtain ⟨rfl, N60q, K60, Pu60⟩ := hQ60
  have N60 := Fr.app N51 N60q
  obtain ⟨Epl61, Fapl61, Fbpl61, Fcpl61, Fdpl61, Fepl61⟩ := Pu60
  have c62 := Fcpl53.keep K60 (ninS ne_b6_b12 nin0)
  have c64 := Epl53.keep K60
  obtain ⟨cq63, kq63, q63a, q63b, q63c⟩ := isOf hZ rfl c64
  obtain ⟨_, _, ⟨T63, L63, k63, n63⟩, -, X63, ⟨Lc63, hQ63, l63, y63, z63⟩, st63⟩ := X60.virtualBack hx (y := nm_6) (z := nm_6) hown (mvT hZ (ow hw 36 rfl)) (mvT hZ (ow hw 37 rfl)) (notFace_of_selects (args := #[]) (mvT hZ (ow hw 39 rfl))) (mvT hZ (ow hw 39 rfl)) (mvT hZ (ow hw 38 rfl)) (by decide) (backOf (W := 0) (rm6_N l Z a0 hw [] b6 T60.heap n0 (Nat.le_trans (Nat.le_trans (Nat.le_trans (Nat.le_trans (Nat.le_trans (Nat.le_trans (Nat.le_trans (Nat.le_trans (Nat.le_trans (Nat.le_trans (Nat.le_trans Z0 Ev1.1) Ev3.1) Ev5.1) E6.1) K7.1) E9.1) K10.1) E12.1) K15.1) K51.1) K60.1) c62) hZ (ow hw 40 rfl) (ow hw 9 rfl) (by decide) (by decide)) q63a q63c (g := (mkF m 177 #[.val (.int p1), .val (.int p2), .val (.int p3), .val (.int p4), .val (.ref av1), .val (.ref av3), .val (.ref av5), .val (.ref b6), .val (.ref b9), .val (.ref b12), .val (.int ((p4 &&& (2147483647 : Int32)) % (5 : Int32))), .val (.ref av1), .val (.ref av3)] [(.ref b6)])) rfl (by rw [hml]; rfl) (Steps.refl _) (argsL := []) (rest := []) (lenOf pd_5 rfl) rfl (by show 2 * 0 + _ ≤ _; exact Nat.le_of_eq rfl) (hb hby at_177) (fun _ _ => ⟨rfl, rfl, (by decide : 6 + 0 ≤ _), (by decide : 18 + 0 ≤ _)⟩)
  dsimp only [Pt.U, Pt.locs, Pt.cells, Pt.slots] at X63 l63 y63 z63 st63 hQ63
  subst l63 y63 z63
  obtain ⟨rfl, N63q, e63⟩ := hQ63
  have N63 := Fr.app N60 N63q
  have c65 := Fcpl52.keep K60 (ninS ne_b9_b12 nin0)
  have c66 := Fapl53.keep K60 (ninS ne_b6_b12 nin0)
  have c68 := Epl52.keep K60
  obtain ⟨cq67, kq67, q67a, q67b, q67c⟩ := isOf hZ e63 c68
  obtain ⟨_, _, ⟨T67, L67, k67, n67⟩, -, X67, ⟨Lc67, hQ67, l67, y67, z67⟩, st67⟩ := X63.virtualBack hx (y := nm_6) (z := nm_6) hown (mvT hZ (ow hw 36 rfl)) (mvT hZ (ow hw 37 rfl)) (notFace_of_selects (args := #[]) (mvT hZ (ow hw 39 rfl))) (mvT hZ (ow hw 39 rfl)) (mvT hZ (ow hw 38 rfl)) (by decide) (backOf (W := 0) (rm6_R l Z a0 hw [] b9 b6 av1 T60.heap n0 (Nat.le_trans (Nat.le_trans (Nat.le_trans (Nat.le_trans (Nat.le_trans (Nat.le_trans (Nat.le_trans (Nat.le_trans (Nat.le_trans (Nat.le_trans (Nat.le_trans Z0 Ev1.1) Ev3.1) Ev5.1) E6.1) K7.1) E9.1) K10.1) E12.1) K15.1) K51.1) K60.1) c65 c66) hZ (ow hw 40 rfl) (ow hw 9 rfl) (by decide) (by decide)) q67a q67c (g := (mkF m 185 #[.val (.int p1), .val (.int p2), .val (.int p3), .val (.int p4), .val (.ref av1), .val (.ref av3), .val (.ref av5), .val (.ref b6), .val (.ref b9), .val (.ref b12), .val (.int ((p4 &&& (2147483647 : Int32)) % (5 : Int32))), .val (.ref av1), .val (.ref av3)] [(.ref b9)])) rfl (by rw [hml]; rfl) (Steps.refl _) (argsL := []) (rest := []) (lenOf pd_5 rfl) rfl (by show 2 * 0 + _ ≤ _; exact Nat.le_of_eq rfl) (hb hby at_185) (fun _ _ => ⟨rfl, e63, (by decide : 6 + 0 ≤ _), (by decide : 18 + 0 ≤ _)⟩)
  dsimp only [Pt.U, Pt.locs, Pt.cells, Pt.slots] at X67 l67 y67 z67 st67 hQ67
  subst l67 y67 z67
  obtain ⟨rfl, N67q, e67⟩ := hQ67
  have N67 := Fr.app N63 N67q
  have c69 := Fapl52.keep K60 (ninS ne_b9_b12 nin0)
  obtain ⟨cq70, kq70, q70a, q70b, q70c⟩ := isOf hZ e67 Epl61
  obtain ⟨_, _, ⟨T70, L70, k70, n70⟩, -, X70, ⟨Lc70, hQ70, l70, y70, z70⟩, st70⟩ := X67.virtualBack hx (y := nm_6) (z := nm_6) hown (mvT hZ (ow hw 36 rfl)) (mvT hZ (ow hw 37 rfl)) (notFace_of_selects (args := #[]) (mvT hZ (ow hw 39 rfl))) (mvT hZ (ow hw 39 rfl)) (mvT hZ (ow hw 38 rfl)) (by decide) (backOf (W := 0) (rm6_R l Z a0 hw [] b12 b9 av3 T60.heap n0 (Nat.le_trans (Nat.le_trans (Nat.le_trans (Nat.le_trans (Nat.le_trans (Nat.le_trans (Nat.le_trans (Nat.le_trans (Nat.le_trans (Nat.le_trans (Nat.le_trans Z0 Ev1.1) Ev3.1) Ev5.1) E6.1) K7.1) E9.1) K10.1) E12.1) K15.1) K51.1) K60.1) Fcpl61 c69) hZ (ow hw 40 rfl) (ow hw 9 rfl) (by decide) (by decide)) q70a q70c (g := (mkF m 195 #[.val (.int p1), .val (.int p2), .val (.int p3), .val (.int p4), .val (.ref av1), .val (.ref av3), .val (.ref av5), .val (.ref b6), .val (.ref b9), .val (.ref b12), .val (.int ((p4 &&& (2147483647 : Int32)) % (5 : Int32))), .val (.ref av1), .val (.ref av3)] [(.ref b12)])) rfl (by rw [hml]; rfl) (Steps.refl _) (argsL := []) (rest := []) (lenOf pd_5 rfl) rfl (by show 2 * 0 + _ ≤ _; exact Nat.le_of_eq rfl) (hb hby at_195) (fun _ _ => ⟨rfl, e67, (by decide : 6 + 0 ≤ _), (by decide : 18 + 0 ≤ _)⟩)
  dsimp only [Pt.U, Pt.locs, Pt.cells, Pt.slots] at X70 l70 y70 z70 st70 hQ70
  subst l70 y70 z70
  obtain ⟨rfl, N70q, e70⟩ := hQ70
  have N70 := Fr.app N67 N70q
  obtain ⟨fs, hr, hrun, hended, hW, hsame⟩ := X70.leave (v := some (.int (1 : Int32))) (fun h => by rw [Bd.returns] at h; cases h)
  refine ⟨_, _, pre0 _ ?_, hrun, hended, _, _, rfl, ?_, ⟨_, rfl⟩, hW, hsame.mono (by decide) (by decide)⟩
  · show Steps p.tables e below (s₁.setTop (mkF m 0 #[.val (.int p1), .val (.int p2), .val (.int p3), .val (.int p4), .unset, .unset, .unset, .unset, .unset, .unset, .unset, .unset, .unset] [])) _
    refine XS.iloadN X0.here hx rfl (hb hby at_0) rfl ?_
    show Steps p.tables e below (s₁.setTop (mkF m 1 #[.val (.int p1), .val (.int p2), .val (.int p3), .val (.int p4), .unset, .unset, .unset, .unset, .unset, .unset, .unset, .unset, .unset] [(.int p1)])) _
    refine st1 _ ?_
    show Steps p.tables e below (T1.setTop (mkF m 4 #[.val (.int p1), .val (.int p2), .val (.int p3), .val (.int p4), .unset, .unset, .unset, .unset, .unset, .unset, .unset, .unset, .unset] [(.ref av1)])) _
    refine XS.astore X1.here hx rfl (hb hby at_4) rfl rfl (l' := #[.val (.int p1), .val (.int p2), .val (.int p3), .val (.int p4), .val (.ref av1), .unset, .unset, .unset, .unset, .unset, .unset, .unset, .unset]) rfl ?_
    show Steps p.tables e below (T1.setTop (mkF m 6 #[.val (.int p1), .val (.int p2), .val (.int p3), .val (.int p4), .val (.ref av1), .unset, .unset, .unset, .unset, .unset, .unset, .unset, .unset] [])) _
    refine XS.iloadN X1.here hx rfl (hb hby at_6) rfl ?_
    show Steps p.tables e below (T1.setTop (mkF m 7 #[.val (.int p1), .val (.int p2), .val (.int p3), .val (.int p4), .val (.ref av1), .unset, .unset, .unset, .unset, .unset, .unset, .unset, .unset] [(.int p2)])) _
    refine st3 _ ?_
    show Steps p.tables e below (T3.setTop (mkF m 10 #[.val (.int p1), .val (.int p2), .val (.int p3), .val (.int p4), .val (.ref av1), .unset, .unset, .unset, .unset, .unset, .unset, .unset, .unset] [(.ref av3)])) _
    refine XS.astore X3.here hx rfl (hb hby at_10) rfl rfl (l' := #[.val (.int p1), .val (.int p2), .val (.int p3), .val (.int p4), .val (.ref av1), .val (.ref av3), .unset, .unset, .unset, .unset, .unset, .unset, .unset]) rfl ?_
    show Steps p.tables e below (T3.setTop (mkF m 12 #[.val (.int p1), .val (.int p2), .val (.int p3), .val (.int p4), .val (.ref av1), .val (.ref av3), .unset, .unset, .unset, .unset, .unset, .unset, .unset] [])) _
    refine XS.iloadN X3.here hx rfl (hb hby at_12) rfl ?_
    show Steps p.tables e below (T3.setTop (mkF m 13 #[.val (.int p1), .val (.int p2), .val (.int p3), .val (.int p4), .val (.ref av1), .val (.ref av3), .unset, .unset, .unset, .unset, .unset, .unset, .unset] [(.int p3)])) _
    refine st5 _ ?_
    show Steps p.tables e below (T5.setTop (mkF m 16 #[.val (.int p1), .val (.int p2), .val (.int p3), .val (.int p4), .val (.ref av1), .val (.ref av3), .unset, .unset, .unset, .unset, .unset, .unset, .unset] [(.ref av5)])) _
    refine XS.astore X5.here hx rfl (hb hby at_16) rfl rfl (l' := #[.val (.int p1), .val (.int p2), .val (.int p3), .val (.int p4), .val (.ref av1), .val (.ref av3), .val (.ref av5), .unset, .unset, .unset, .unset, .unset, .unset]) rfl ?_
    show Steps p.tables e below (T5.setTop (mkF m 18 #[.val (.int p1), .val (.int p2), .val (.int p3), .val (.int p4), .val (.ref av1), .val (.ref av3), .val (.ref av5), .unset, .unset, .unset, .unset, .unset, .unset] [])) _
    refine st6 _ ?_
    show Steps p.tables e below (T6.setTop (mkF m 21 #[.val (.int p1), .val (.int p2), .val (.int p3), .val (.int p4), .val (.ref av1), .val (.ref av3), .val (.ref av5), .unset, .unset, .unset, .unset, .unset, .unset] [(.ref b6)])) _
    refine XS.dup X6.here hx rfl (hb hby at_21) rfl rfl ?_
    show Steps p.tables e below (T6.setTop (mkF m 22 #[.val (.int p1), .val (.int p2), .val (.int p3), .val (.int p4), .val (.ref av1), .val (.ref av3), .val (.ref av5), .unset, .unset, .unset, .unset, .unset, .unset] [(.ref b6), (.ref b6)])) _
    refine XS.aload X6.here hx rfl (hb hby at_22) rfl rfl ?_
    show Steps p.tables e below (T6.setTop (mkF m 24 #[.val (.int p1), .val (.int p2), .val (.int p3), .val (.int p4), .val (.ref av1), .val (.ref av3), .val (.ref av5), .unset, .unset, .unset, .unset, .unset, .unset] [(.ref av1), (.ref b6), (.ref b6)])) _
    refine st7.trans ?_
    show Steps p.tables e below (T7.setTop (mkF m 27 #[.val (.int p1), .val (.int p2), .val (.int p3), .val (.int p4), .val (.ref av1), .val (.ref av3), .val (.ref av5), .unset, .unset, .unset, .unset, .unset, .unset] [(.ref b6)])) _
    refine XS.astore X7.here hx rfl (hb hby at_27) rfl rfl (l' := #[.val (.int p1), .val (.int p2), .val (.int p3), .val (.int p4), .val (.ref av1), .val (.ref av3), .val (.ref av5), .val (.ref b6), .unset, .unset, .unset, .unset, .unset]) rfl ?_
    show Steps p.tables e below (T7.setTop (mkF m 29 #[.val (.int p1), .val (.int p2), .val (.int p3), .val (.int p4), .val (.ref av1), .val (.ref av3), .val (.ref av5), .val (.ref b6), .unset, .unset, .unset, .unset, .unset] [])) _
    refine st9 _ ?_
    show Steps p.tables e below (T9.setTop (mkF m 32 #[.val (.int p1), .val (.int p2), .val (.int p3), .val (.int p4), .val (.ref av1), .val (.ref av3), .val (.ref av5), .val (.ref b6), .unset, .unset, .unset, .unset, .unset] [(.ref b9)])) _
    refine XS.dup X9.here hx rfl (hb hby at_32) rfl rfl ?_
    show Steps p.tables e below (T9.setTop (mkF m 33 #[.val (.int p1), .val (.int p2), .val (.int p3), .val (.int p4), .val (.ref av1), .val (.ref av3), .val (.ref av5), .val (.ref b6), .unset, .unset, .unset, .unset, .unset] [(.ref b9), (.ref b9)])) _
    refine XS.aload X9.here hx rfl (hb hby at_33) rfl rfl ?_
    show Steps p.tables e below (T9.setTop (mkF m 35 #[.val (.int p1), .val (.int p2), .val (.int p3), .val (.int p4), .val (.ref av1), .val (.ref av3), .val (.ref av5), .val (.ref b6), .unset, .unset, .unset, .unset, .unset] [(.ref av3), (.ref b9), (.ref b9)])) _
    refine st10.trans ?_
    show Steps p.tables e below (T10.setTop (mkF m 38 #[.val (.int p1), .val (.int p2), .val (.int p3), .val (.int p4), .val (.ref av1), .val (.ref av3), .val (.ref av5), .val (.ref b6), .unset, .unset, .unset, .unset, .unset] [(.ref b9)])) _
    refine XS.astore X10.here hx rfl (hb hby at_38) rfl rfl (l' := #[.val (.int p1), .val (.int p2), .val (.int p3), .val (.int p4), .val (.ref av1), .val (.ref av3), .val (.ref av5), .val (.ref b6), .val (.ref b9), .unset, .unset, .unset, .unset]) rfl ?_
    show Steps p.tables e below (T10.setTop (mkF m 40 #[.val (.int p1), .val (.int p2), .val (.int p3), .val (.int p4), .val (.ref av1), .val (.ref av3), .val (.ref av5), .val (.ref b6), .val (.ref b9), .unset, .unset, .unset, .unset] [])) _
    refine st12 _ ?_
    show Steps p.tables e below (T12.setTop (mkF m 43 #[.val (.int p1), .val (.int p2), .val (.int p3), .val (.int p4), .val (.ref av1), .val (.ref av3), .val (.ref av5), .val (.ref b6), .val (.ref b9), .unset, .unset, .unset, .unset] [(.ref b12)])) _
    refine XS.dup X12.here hx rfl (hb hby at_43) rfl rfl ?_
    show Steps p.tables e below (T12.setTop (mkF m 44 #[.val (.int p1), .val (.int p2), .val (.int p3), .val (.int p4), .val (.ref av1), .val (.ref av3), .val (.ref av5), .val (.ref b6), .val (.ref b9), .unset, .unset, .unset, .unset] [(.ref b12), (.ref b12)])) _
    refine XS.aload X12.here hx rfl (hb hby at_44) rfl rfl ?_
    show Steps p.tables e below (T12.setTop (mkF m 46 #[.val (.int p1), .val (.int p2), .val (.int p3), .val (.int p4), .val (.ref av1), .val (.ref av3), .val (.ref av5), .val (.ref b6), .val (.ref b9), .unset, .unset, .unset, .unset] [(.ref av5), (.ref b12), (.ref b12)])) _
    refine st15.trans ?_
    show Steps p.tables e below (T15.setTop (mkF m 49 #[.val (.int p1), .val (.int p2), .val (.int p3), .val (.int p4), .val (.ref av1), .val (.ref av3), .val (.ref av5), .val (.ref b6), .val (.ref b9), .unset, .unset, .unset, .unset] [(.ref b12)])) _
    refine XS.astore X15.here hx rfl (hb hby at_49) rfl rfl (l' := #[.val (.int p1), .val (.int p2), .val (.int p3), .val (.int p4), .val (.ref av1), .val (.ref av3), .val (.ref av5), .val (.ref b6), .val (.ref b9), .val (.ref b12), .unset, .unset, .unset]) rfl ?_
    show Steps p.tables e below (T15.setTop (mkF m 51 #[.val (.int p1), .val (.int p2), .val (.int p3), .val (.int p4), .val (.ref av1), .val (.ref av3), .val (.ref av5), .val (.ref b6), .val (.ref b9), .val (.ref b12), .unset, .unset, .unset] [])) _
    refine XS.iloadN X15.here hx rfl (hb hby at_51) rfl ?_
    show Steps p.tables e below (T15.setTop (mkF m 52 #[.val (.int p1), .val (.int p2), .val (.int p3), .val (.int p4), .val (.ref av1), .val (.ref av3), .val (.ref av5), .val (.ref b6), .val (.ref b9), .val (.ref b12), .unset, .unset, .unset] [(.int p4)])) _
    refine X15.ldcInt hx hown (mvT hZ (ow hw 20 rfl)) (g := (mkF m 52 #[.val (.int p1), .val (.int p2), .val (.int p3), .val (.int p4), .val (.ref av1), .val (.ref av3), .val (.ref av5), .val (.ref b6), .val (.ref b9), .val (.ref b12), .unset, .unset, .unset] [(.int p4)])) rfl (hb hby at_52) _ ?_
    show Steps p.tables e below (T15.setTop (mkF m 54 #[.val (.int p1), .val (.int p2), .val (.int p3), .val (.int p4), .val (.ref av1), .val (.ref av3), .val (.ref av5), .val (.ref b6), .val (.ref b9), .val (.ref b12), .unset, .unset, .unset] [(.int (2147483647 : Int32)), (.int p4)])) _
    refine XS.iand X15.here hx rfl (hb hby at_54) rfl ?_
    show Steps p.tables e below (T15.setTop (mkF m 55 #[.val (.int p1), .val (.int p2), .val (.int p3), .val (.int p4), .val (.ref av1), .val (.ref av3), .val (.ref av5), .val (.ref b6), .val (.ref b9), .val (.ref b12), .unset, .unset, .unset] [(.int (p4 &&& (2147483647 : Int32)))])) _
    refine XS.iconst X15.here hx rfl (hb hby at_55) ?_
    show Steps p.tables e below (T15.setTop (mkF m 56 #[.val (.int p1), .val (.int p2), .val (.int p3), .val (.int p4), .val (.ref av1), .val (.ref av3), .val (.ref av5), .val (.ref b6), .val (.ref b9), .val (.ref b12), .unset, .unset, .unset] [(.int (5 : Int32)), (.int (p4 &&& (2147483647 : Int32)))])) _
    refine iremM X15 hx (g := (mkF m 56 #[.val (.int p1), .val (.int p2), .val (.int p3), .val (.int p4), .val (.ref av1), .val (.ref av3), .val (.ref av5), .val (.ref b6), .val (.ref b9), .val (.ref b12), .unset, .unset, .unset] [(.int (5 : Int32)), (.int (p4 &&& (2147483647 : Int32)))])) rfl (hb hby at_56) rfl (by decide) ?_
    show Steps p.tables e below (T15.setTop (mkF m 57 #[.val (.int p1), .val (.int p2), .val (.int p3), .val (.int p4), .val (.ref av1), .val (.ref av3), .val (.ref av5), .val (.ref b6), .val (.ref b9), .val (.ref b12), .unset, .unset, .unset] [(.int ((p4 &&& (2147483647 : Int32)) % (5 : Int32)))])) _
    refine XS.istore X15.here hx rfl (hb hby at_57) rfl (l' := #[.val (.int p1), .val (.int p2), .val (.int p3), .val (.int p4), .val (.ref av1), .val (.ref av3), .val (.ref av5), .val (.ref b6), .val (.ref b9), .val (.ref b12), .val (.int ((p4 &&& (2147483647 : Int32)) % (5 : Int32))), .unset, .unset]) rfl ?_
    show Steps p.tables e below (T15.setTop (mkF m 59 #[.val (.int p1), .val (.int p2), .val (.int p3), .val (.int p4), .val (.ref av1), .val (.ref av3), .val (.ref av5), .val (.ref b6), .val (.ref b9), .val (.ref b12), .val (.int ((p4 &&& (2147483647 : Int32)) % (5 : Int32))), .unset, .unset] [])) _
    refine XS.aconstNull X15.here hx rfl (hb hby at_59) ?_
    show Steps p.tables e below (T15.setTop (mkF m 60 #[.val (.int p1), .val (.int p2), .val (.int p3), .val (.int p4), .val (.ref av1), .val (.ref av3), .val (.ref av5), .val (.ref b6), .val (.ref b9), .val (.ref b12), .val (.int ((p4 &&& (2147483647 : Int32)) % (5 : Int32))), .unset, .unset] [.null])) _
    refine XS.astore X15.here hx rfl (hb hby at_60) rfl rfl (l' := #[.val (.int p1), .val (.int p2), .val (.int p3), .val (.int p4), .val (.ref av1), .val (.ref av3), .val (.ref av5), .val (.ref b6), .val (.ref b9), .val (.ref b12), .val (.int ((p4 &&& (2147483647 : Int32)) % (5 : Int32))), .val .null, .unset]) rfl ?_
    show Steps p.tables e below (T15.setTop (mkF m 62 #[.val (.int p1), .val (.int p2), .val (.int p3), .val (.int p4), .val (.ref av1), .val (.ref av3), .val (.ref av5), .val (.ref b6), .val (.ref b9), .val (.ref b12), .val (.int ((p4 &&& (2147483647 : Int32)) % (5 : Int32))), .val .null, .unset] [])) _
    refine XS.aconstNull X15.here hx rfl (hb hby at_62) ?_
    show Steps p.tables e below (T15.setTop (mkF m 63 #[.val (.int p1), .val (.int p2), .val (.int p3), .val (.int p4), .val (.ref av1), .val (.ref av3), .val (.ref av5), .val (.ref b6), .val (.ref b9), .val (.ref b12), .val (.int ((p4 &&& (2147483647 : Int32)) % (5 : Int32))), .val .null, .unset] [.null])) _
    refine XS.astore X15.here hx rfl (hb hby at_63) rfl rfl (l' := #[.val (.int p1), .val (.int p2), .val (.int p3), .val (.int p4), .val (.ref av1), .val (.ref av3), .val (.ref av5), .val (.ref b6), .val (.ref b9), .val (.ref b12), .val (.int ((p4 &&& (2147483647 : Int32)) % (5 : Int32))), .val .null, .val .null]) rfl ?_
    show Steps p.tables e below (T15.setTop (mkF m 65 #[.val (.int p1), .val (.int p2), .val (.int p3), .val (.int p4), .val (.ref av1), .val (.ref av3), .val (.ref av5), .val (.ref b6), .val (.ref b9), .val (.ref b12), .val (.int ((p4 &&& (2147483647 : Int32)) % (5 : Int32))), .val .null, .val .null] [])) _
    refine XS.iload X15.here hx rfl (hb hby at_65) rfl ?_
    show Steps p.tables e below (T15.setTop (mkF m 67 #[.val (.int p1), .val (.int p2), .val (.int p3), .val (.int p4), .val (.ref av1), .val (.ref av3), .val (.ref av5), .val (.ref b6), .val (.ref b9), .val (.ref b12), .val (.int ((p4 &&& (2147483647 : Int32)) % (5 : Int32))), .val .null, .val .null] [(.int ((p4 &&& (2147483647 : Int32)) % (5 : Int32)))])) _
    refine XS.iconst X15.here hx rfl (hb hby at_67) ?_
    show Steps p.tables e below (T15.setTop (mkF m 68 #[.val (.int p1), .val (.int p2), .val (.int p3), .val (.int p4), .val (.ref av1), .val (.ref av3), .val (.ref av5), .val (.ref b6), .val (.ref b9), .val (.ref b12), .val (.int ((p4 &&& (2147483647 : Int32)) % (5 : Int32))), .val .null, .val .null] [(.int (1 : Int32)), (.int ((p4 &&& (2147483647 : Int32)) % (5 : Int32)))])) _
    refine XS.icmpYes X15.here hx rfl (pc0 := 68) (pc' := 85) rfl (hb hby at_68) rfl (feq hc68).2 (by decide) (by decide) ?_
    show Steps p.tables e below (T15.setTop (mkF m 85 #[.val (.int p1), .val (.int p2), .val (.int p3), .val (.int p4), .val (.ref av1), .val (.ref av3), .val (.ref av5), .val (.ref b6), .val (.ref b9), .val (.ref b12), .val (.int ((p4 &&& (2147483647 : Int32)) % (5 : Int32))), .val .null, .val .null] [])) _
    refine XS.iload X15.here hx rfl (hb hby at_85) rfl ?_
    show Steps p.tables e below (T15.setTop (mkF m 87 #[.val (.int p1), .val (.int p2), .val (.int p3), .val (.int p4), .val (.ref av1), .val (.ref av3), .val (.ref av5), .val (.ref b6), .val (.ref b9), .val (.ref b12), .val (.int ((p4 &&& (2147483647 : Int32)) % (5 : Int32))), .val .null, .val .null] [(.int ((p4 &&& (2147483647 : Int32)) % (5 : Int32)))])) _
    refine XS.iconst X15.here hx rfl (hb hby at_87) ?_
    show Steps p.tables e below (T15.setTop (mkF m 88 #[.val (.int p1), .val (.int p2), .val (.int p3), .val (.int p4), .val (.ref av1), .val (.ref av3), .val (.ref av5), .val (.ref b6), .val (.ref b9), .val (.ref b12), .val (.int ((p4 &&& (2147483647 : Int32)) % (5 : Int32))), .val .null, .val .null] [(.int (2 : Int32)), (.int ((p4 &&& (2147483647 : Int32)) % (5 : Int32)))])) _
    refine XS.icmpNo X15.here hx rfl (hb hby at_88) rfl (teq hc88).2 ?_
    show Steps p.tables e below (T15.setTop (mkF m 91 #[.val (.int p1), .val (.int p2), .val (.int p3), .val (.int p4), .val (.ref av1), .val (.ref av3), .val (.ref av5), .val (.ref b6), .val (.ref b9), .val (.ref b12), .val (.int ((p4 &&& (2147483647 : Int32)) % (5 : Int32))), .val .null, .val .null] [])) _
    refine XS.aload X15.here hx rfl (hb hby at_91) rfl rfl ?_
    show Steps p.tables e below (T15.setTop (mkF m 93 #[.val (.int p1), .val (.int p2), .val (.int p3), .val (.int p4), .val (.ref av1), .val (.ref av3), .val (.ref av5), .val (.ref b6), .val (.ref b9), .val (.ref b12), .val (.int ((p4 &&& (2147483647 : Int32)) % (5 : Int32))), .val .null, .val .null] [(.ref b9)])) _
    refine XS.aload X15.here hx rfl (hb hby at_93) rfl rfl ?_
    show Steps p.tables e below (T15.setTop (mkF m 95 #[.val (.int p1), .val (.int p2), .val (.int p3), .val (.int p4), .val (.ref av1), .val (.ref av3), .val (.ref av5), .val (.ref b6), .val (.ref b9), .val (.ref b12), .val (.int ((p4 &&& (2147483647 : Int32)) % (5 : Int32))), .val .null, .val .null] [(.ref b6), (.ref b9)])) _
    refine st51.trans ?_
    show Steps p.tables e below (T51.setTop (mkF m 98 #[.val (.int p1), .val (.int p2), .val (.int p3), .val (.int p4), .val (.ref av1), .val (.ref av3), .val (.ref av5), .val (.ref b6), .val (.ref b9), .val (.ref b12), .val (.int ((p4 &&& (2147483647 : Int32)) % (5 : Int32))), .val .null, .val .null] [])) _
    refine XS.aload X51.here hx rfl (hb hby at_98) rfl rfl ?_
    show Steps p.tables e below (T51.setTop (mkF m 100 #[.val (.int p1), .val (.int p2), .val (.int p3), .val (.int p4), .val (.ref av1), .val (.ref av3), .val (.ref av5), .val (.ref b6), .val (.ref b9), .val (.ref b12), .val (.int ((p4 &&& (2147483647 : Int32)) % (5 : Int32))), .val .null, .val .null] [(.ref b12)])) _
    refine XS.aload X51.here hx rfl (hb hby at_100) rfl rfl ?_
    show Steps p.tables e below (T51.setTop (mkF m 102 #[.val (.int p1), .val (.int p2), .val (.int p3), .val (.int p4), .val (.ref av1), .val (.ref av3), .val (.ref av5), .val (.ref b6), .val (.ref b9), .val (.ref b12), .val (.int ((p4 &&& (2147483647 : Int32)) % (5 : Int32))), .val .null, .val .null] [(.ref b9), (.ref b12)])) _
    refine st60.trans ?_
    show Steps p.tables e below (T60.setTop (mkF m 105 #[.val (.int p1), .val (.int p2), .val (.int p3), .val (.int p4), .val (.ref av1), .val (.ref av3), .val (.ref av5), .val (.ref b6), .val (.ref b9), .val (.ref b12), .val (.int ((p4 &&& (2147483647 : Int32)) % (5 : Int32))), .val .null, .val .null] [])) _
    refine XS.aload X60.here hx rfl (hb hby at_105) rfl rfl ?_
    show Steps p.tables e below (T60.setTop (mkF m 107 #[.val (.int p1), .val (.int p2), .val (.int p3), .val (.int p4), .val (.ref av1), .val (.ref av3), .val (.ref av5), .val (.ref b6), .val (.ref b9), .val (.ref b12), .val (.int ((p4 &&& (2147483647 : Int32)) % (5 : Int32))), .val .null, .val .null] [(.ref av1)])) _
    refine XS.astore X60.here hx rfl (hb hby at_107) rfl rfl (l' := #[.val (.int p1), .val (.int p2), .val (.int p3), .val (.int p4), .val (.ref av1), .val (.ref av3), .val (.ref av5), .val (.ref b6), .val (.ref b9), .val (.ref b12), .val (.int ((p4 &&& (2147483647 : Int32)) % (5 : Int32))), .val (.ref av1), .val .null]) rfl ?_
    show Steps p.tables e below (T60.setTop (mkF m 109 #[.val (.int p1), .val (.int p2), .val (.int p3), .val (.int p4), .val (.ref av1), .val (.ref av3), .val (.ref av5), .val (.ref b6), .val (.ref b9), .val (.ref b12), .val (.int ((p4 &&& (2147483647 : Int32)) % (5 : Int32))), .val (.ref av1), .val .null] [])) _
    refine XS.aload X60.here hx rfl (hb hby at_109) rfl rfl ?_
    show Steps p.tables e below (T60.setTop (mkF m 111 #[.val (.int p1), .val (.int p2), .val (.int p3), .val (.int p4), .val (.ref av1), .val (.ref av3), .val (.ref av5), .val (.ref b6), .val (.ref b9), .val (.ref b12), .val (.int ((p4 &&& (2147483647 : Int32)) % (5 : Int32))), .val (.ref av1), .val .null] [(.ref av3)])) _
    refine XS.astore X60.here hx rfl (hb hby at_111) rfl rfl (l' := #[.val (.int p1), .val (.int p2), .val (.int p3), .val (.int p4), .val (.ref av1), .val (.ref av3), .val (.ref av5), .val (.ref b6), .val (.ref b9), .val (.ref b12), .val (.int ((p4 &&& (2147483647 : Int32)) % (5 : Int32))), .val (.ref av1), .val (.ref av3)]) rfl ?_
    show Steps p.tables e below (T60.setTop (mkF m 113 #[.val (.int p1), .val (.int p2), .val (.int p3), .val (.int p4), .val (.ref av1), .val (.ref av3), .val (.ref av5), .val (.ref b6), .val (.ref b9), .val (.ref b12), .val (.int ((p4 &&& (2147483647 : Int32)) % (5 : Int32))), .val (.ref av1), .val (.ref av3)] [])) _
    refine XS.goto X60.here hx rfl (pc0 := 113) (pc' := 175) rfl (hb hby at_113) (by decide) (by decide) ?_
    show Steps p.tables e below (T60.setTop (mkF m 175 #[.val (.int p1), .val (.int p2), .val (.int p3), .val (.int p4), .val (.ref av1), .val (.ref av3), .val (.ref av5), .val (.ref b6), .val (.ref b9), .val (.ref b12), .val (.int ((p4 &&& (2147483647 : Int32)) % (5 : Int32))), .val (.ref av1), .val (.ref av3)] [])) _
    refine XS.aload X60.here hx rfl (hb hby at_175) rfl rfl ?_
    show Steps p.tables e below (T60.setTop (mkF m 177 #[.val (.int p1), .val (.int p2), .val (.int p3), .val (.int p4), .val (.ref av1), .val (.ref av3), .val (.ref av5), .val (.ref b6), .val (.ref b9), .val (.ref b12), .val (.int ((p4 &&& (2147483647 : Int32)) % (5 : Int32))), .val (.ref av1), .val (.ref av3)] [(.ref b6)])) _
    refine st63.trans ?_
    show Steps p.tables e below (T63.setTop (mkF m 180 #[.val (.int p1), .val (.int p2), .val (.int p3), .val (.int p4), .val (.ref av1), .val (.ref av3), .val (.ref av5), .val (.ref b6), .val (.ref b9), .val (.ref b12), .val (.int ((p4 &&& (2147483647 : Int32)) % (5 : Int32))), .val (.ref av1), .val (.ref av3)] [.null])) _
    refine XS.ifnonnullNo X63.here hx rfl (hb hby at_180) rfl ?_
    show Steps p.tables e below (T63.setTop (mkF m 183 #[.val (.int p1), .val (.int p2), .val (.int p3), .val (.int p4), .val (.ref av1), .val (.ref av3), .val (.ref av5), .val (.ref b6), .val (.ref b9), .val (.ref b12), .val (.int ((p4 &&& (2147483647 : Int32)) % (5 : Int32))), .val (.ref av1), .val (.ref av3)] [])) _
    refine XS.aload X63.here hx rfl (hb hby at_183) rfl rfl ?_
    show Steps p.tables e below (T63.setTop (mkF m 185 #[.val (.int p1), .val (.int p2), .val (.int p3), .val (.int p4), .val (.ref av1), .val (.ref av3), .val (.ref av5), .val (.ref b6), .val (.ref b9), .val (.ref b12), .val (.int ((p4 &&& (2147483647 : Int32)) % (5 : Int32))), .val (.ref av1), .val (.ref av3)] [(.ref b9)])) _
    refine st67.trans ?_
    show Steps p.tables e below (T67.setTop (mkF m 188 #[.val (.int p1), .val (.int p2), .val (.int p3), .val (.int p4), .val (.ref av1), .val (.ref av3), .val (.ref av5), .val (.ref b6), .val (.ref b9), .val (.ref b12), .val (.int ((p4 &&& (2147483647 : Int32)) % (5 : Int32))), .val (.ref av1), .val (.ref av3)] [(.ref av1)])) _
    refine XS.aload X67.here hx rfl (hb hby at_188) rfl rfl ?_
    show Steps p.tables e below (T67.setTop (mkF m 190 #[.val (.int p1), .val (.int p2), .val (.int p3), .val (.int p4), .val (.ref av1), .val (.ref av3), .val (.ref av5), .val (.ref b6), .val (.ref b9), .val (.ref b12), .val (.int ((p4 &&& (2147483647 : Int32)) % (5 : Int32))), .val (.ref av1), .val (.ref av3)] [(.ref av1), (.ref av1)])) _
    refine Jvm.RoadKit.acmp (g := (mkF m 190 #[.val (.int p1), .val (.int p2), .val (.int p3), .val (.int p4), .val (.ref av1), .val (.ref av3), .val (.ref av5), .val (.ref b6), .val (.ref b9), .val (.ref b12), .val (.int ((p4 &&& (2147483647 : Int32)) % (5 : Int32))), .val (.ref av1), .val (.ref av3)] [(.ref av1), (.ref av1)])) X67 hx rfl rfl rfl (pc0 := 190) (pc' := 193) (same := true) rfl (hb hby at_190) rfl (decide_eq_true rfl) (by decide) (by decide) ?_
    show Steps p.tables e below (T67.setTop (mkF m 193 #[.val (.int p1), .val (.int p2), .val (.int p3), .val (.int p4), .val (.ref av1), .val (.ref av3), .val (.ref av5), .val (.ref b6), .val (.ref b9), .val (.ref b12), .val (.int ((p4 &&& (2147483647 : Int32)) % (5 : Int32))), .val (.ref av1), .val (.ref av3)] [])) _
    refine XS.aload X67.here hx rfl (hb hby at_193) rfl rfl ?_
    show Steps p.tables e below (T67.setTop (mkF m 195 #[.val (.int p1), .val (.int p2), .val (.int p3), .val (.int p4), .val (.ref av1), .val (.ref av3), .val (.ref av5), .val (.ref b6), .val (.ref b9), .val (.ref b12), .val (.int ((p4 &&& (2147483647 : Int32)) % (5 : Int32))), .val (.ref av1), .val (.ref av3)] [(.ref b12)])) _
    refine st70.trans ?_
    show Steps p.tables e below (T70.setTop (mkF m 198 #[.val (.int p1), .val (.int p2), .val (.int p3), .val (.int p4), .val (.ref av1), .val (.ref av3), .val (.ref av5), .val (.ref b6), .val (.ref b9), .val (.ref b12), .val (.int ((p4 &&& (2147483647 : Int32)) % (5 : Int32))), .val (.ref av1), .val (.ref av3)] [(.ref av3)])) _
    refine XS.aload X70.here hx rfl (hb hby at_198) rfl rfl ?_
    show Steps p.tables e below (T70.setTop (mkF m 200 #[.val (.int p1), .val (.int p2), .val (.int p3), .val (.int p4), .val (.ref av1), .val (.ref av3), .val (.ref av5), .val (.ref b6), .val (.ref b9), .val (.ref b12), .val (.int ((p4 &&& (2147483647 : Int32)) % (5 : Int32))), .val (.ref av1), .val (.ref av3)] [(.ref av3), (.ref av3)])) _
    refine Jvm.RoadKit.acmp (g := (mkF m 200 #[.val (.int p1), .val (.int p2), .val (.int p3), .val (.int p4), .val (.ref av1), .val (.ref av3), .val (.ref av5), .val (.ref b6), .val (.ref b9), .val (.ref b12), .val (.int ((p4 &&& (2147483647 : Int32)) % (5 : Int32))), .val (.ref av1), .val (.ref av3)] [(.ref av3), (.ref av3)])) X70 hx rfl rfl rfl (pc0 := 200) (pc' := 203) (same := true) rfl (hb hby at_200) rfl (decide_eq_true rfl) (by decide) (by decide) ?_
    show Steps p.tables e below (T70.setTop (mkF m 203 #[.val (.int p1), .val (.int p2), .val (.int p3), .val (.int p4), .val (.ref av1), .val (.ref av3), .val (.ref av5), .val (.ref b6), .val (.ref b9), .val (.ref b12), .val (.int ((p4 &&& (2147483647 : Int32)) % (5 : Int32))), .val (.ref av1), .val (.ref av3)] [])) _
    refine XS.iconst X70.here hx rfl (hb hby at_203) ?_
    show Steps p.tables e below (T70.setTop (mkF m 204 #[.val (.int p1), .val (.int p2), .val (.int p3), .val (.int p4), .val (.ref av1), .val (.ref av3), .val (.ref av5), .val (.ref b6), .val (.ref b9), .val (.ref b12), .val (.int ((p4 &&& (2147483647 : Int32)) % (5 : Int32))), .val (.ref av1), .val (.ref av3)] [(.int (1 : Int32))])) _
    refine XS.goto X70.here hx rfl (pc0 := 204) (pc' := 208) rfl (hb hby at_204) (by decide) (by decide) ?_
    show Steps p.tables e below (T70.setTop (mkF m 208 #[.val (.int p1), .val (.int p2), .val (.int p3), .val (.int p4), .val (.ref av1), .val (.ref av3), .val (.ref av5), .val (.ref b6), .val (.ref b9), .val (.ref b12), .val (.int ((p4 &&& (2147483647 : Int32)) % (5 : Int32))), .val (.ref av1), .val (.ref av3)] [(.int (1 : Int32))])) _
    exact retN X70 hx (t := .boolean) Bd.returns (by simp) (hb hby at_208) hr
  · show QF h0 n0 _ T70.heap _
    rw [e70]
    exact ⟨rfl, N70⟩
set_option maxRecDepth 65536 in
set_option maxHeartbeats 40000000 in
theorem rm0_3 (l : Launch) (Z : State) (a0 : Array Value) (hw : ∀ d ∈ tables_1, d.before a0 Z = true) (ws : List Jvm.Cond) (p1 : Int32) (p2 : Int32) (p3 : Int32) (p4 : Int32) (cb : Addr) (h0 : Heap) (n0 : Nat) (Z0 : n0 ≤ h0.size) (O0 : Old Z n0 h0) (SHZ : Sta Z Z.heap "java/lang/Integer$IntegerCache" "high" "I" (.int (127 : Int32))) (SCZ : Sta Z Z.heap "java/lang/Integer$IntegerCache" "cache" "[Ljava/lang/Integer;" (.ref cb)) (LC : ICache Z cb) (hc68 : ¬ (((p4 &&& (2147483647 : Int32)) % (5 : Int32)) = (1 : Int32))) (hc88 : ¬ (((p4 &&& (2147483647 : Int32)) % (5 : Int32)) = (2 : Int32))) (hc119 : ((p4 &&& (2147483647 : Int32)) % (5 : Int32)) = (3 : Int32)) :
    MetFree l x (head1 (Jvm.Cond.code x code maxLocals ret :: ws) room_1) (fun aa U => aa = #[(.int p1), (.int p2), (.int p3), (.int p4)] ∧ Z.Warmed39 U.vm ∧ U.heap = h0) (fun _ _ _ _ _ => True) (fun _ U o U' => ∃ v L, o = .returned v ∧ QF h0 n0 v U'.heap L ∧ FrameEnd U o U' L room_1.cells room_1.slots) := by
  refine MetFree.of_bodySF (plainFor_of_name pn_com_example_framelatch_framelatch_PlaceParentPinLaw) hisR ?_
  intro p e s m args below meth c s₁ Bd hml0 hP hK
  obtain ⟨rfl, hZ, hh⟩ := hP
  have hx := Bd.exec
  have hby := Bd.bytes
  have hml : c.maxLocals = 13 := hml0
  have hown : s.vm.findClass "com/example/framelatch/framelatch/PlaceParentPinLaw" = some m.cls := findClass_of_methodNamed Bd.named
  have hnm := (name_of_methodNamed Bd.named Bd.method).1
  have X0 : Stand p l e room_1 s m #[(.int p1), (.int p2), (.int p3), (.int p4)] below meth c s₁ [] 0 0 := Stand.of_body Bd
  have e0 : s₁.heap = h0 := by rw [← hh, Bd.state]; rfl
  have N0 := Fr.nil n0
  have pre0 : ∀ t, Steps p.tables e below (s₁.setTop (mkF m 0 #[.val (.int p1), .val (.int p2), .val (.int p3), .val (.int p4), .unset, .unset, .unset, .unset, .unset, .unset, .unset, .unset, .unset] [])) t → Steps p.tables e below (s₁.setTop (entryFrame m #[(.int p1), (.int p2), (.int p3), (.int p4)] maxLocals)) t := fun t k => castTop (ef_0 m p1 p2 p3 p4) k
  obtain ⟨_, _, ⟨T1, L1, k1, n1⟩, -, X1, ⟨Lc1, hQ1, l1, y1, z1⟩, st1⟩ := Jvm.LawKit.callS X0 hx (y := nm_1) hown (mvT hZ (ow hw 0 rfl)) (mvT hZ (ow hw 1 rfl)) (mvT hZ (ow hw 2 rfl)) (mvT hZ (ow hw 3 rfl)) (by decide) (backOf (W := 0) (rm1 l Z a0 hw [] p1 cb h0 n0 Z0 O0 SHZ SCZ LC) hZ (ow hw 3 rfl) (ow hw 2 rfl) (by decide) (by decide)) (g := (mkF m 1 #[.val (.int p1), .val (.int p2), .val (.int p3), .val (.int p4), .unset, .unset, .unset, .unset, .unset, .unset, .unset, .unset, .unset] [(.int p1)])) rfl (by rw [hml]; rfl) (argsL := [(.int p1)]) (rest := []) (lenOf pd_0 rfl) rfl (by show 2 * 0 + _ ≤ _; exact Nat.le_of_eq rfl) (hb hby at_1) (fun _ _ => ⟨rfl, e0, (by decide : 0 + 1 ≤ _), (by decide : 0 + 1 ≤ _)⟩)
  dsimp only [Pt.U, Pt.locs, Pt.cells, Pt.slots] at X1 l1 y1 z1 st1 hQ1
  subst l1 y1 z1
  obtain ⟨av1, rfl, N1q, Ev1⟩ := hQ1
  have N1 := Fr.app N0 N1q
  have c2 := O0.ext Ev1
  obtain ⟨_, _, ⟨T3, L3, k3, n3⟩, -, X3, ⟨Lc3, hQ3, l3, y3, z3⟩, st3⟩ := Jvm.LawKit.callS X1 hx (y := nm_1) hown (mvT hZ (ow hw 0 rfl)) (mvT hZ (ow hw 1 rfl)) (mvT hZ (ow hw 2 rfl)) (mvT hZ (ow hw 3 rfl)) (by decide) (backOf (W := 0) (rm1 l Z a0 hw [] p2 cb T1.heap n0 (Nat.le_trans Z0 Ev1.1) c2 SHZ SCZ LC) hZ (ow hw 3 rfl) (ow hw 2 rfl) (by decide) (by decide)) (g := (mkF m 7 #[.val (.int p1), .val (.int p2), .val (.int p3), .val (.int p4), .val (.ref av1), .unset, .unset, .unset, .unset, .unset, .unset, .unset, .unset] [(.int p2)])) rfl (by rw [hml]; rfl) (argsL := [(.int p2)]) (rest := []) (lenOf pd_0 rfl) rfl (by show 2 * 0 + _ ≤ _; exact Nat.le_of_eq rfl) (hb hby at_7) (fun _ _ => ⟨rfl, rfl, (by decide : 1 + 1 ≤ _), (by decide : 1 + 1 ≤ _)⟩)
  dsimp only [Pt.U, Pt.locs, Pt.cells, Pt.slots] at X3 l3 y3 z3 st3 hQ3
  subst l3 y3 z3
  obtain ⟨av3, rfl, N3q, Ev3⟩ := hQ3
  have N3 := Fr.app N1 N3q
  have c4 := c2.ext Ev3
  obtain ⟨_, _, ⟨T5, L5, k5, n5⟩, -, X5, ⟨Lc5, hQ5, l5, y5, z5⟩, st5⟩ := Jvm.LawKit.callS X3 hx (y := nm_1) hown (mvT hZ (ow hw 0 rfl)) (mvT hZ (ow hw 1 rfl)) (mvT hZ (ow hw 2 rfl)) (mvT hZ (ow hw 3 rfl)) (by decide) (backOf (W := 0) (rm1 l Z a0 hw [] p3 cb T3.heap n0 (Nat.le_trans (Nat.le_trans Z0 Ev1.1) Ev3.1) c4 SHZ SCZ LC) hZ (ow hw 3 rfl) (ow hw 2 rfl) (by decide) (by decide)) (g := (mkF m 13 #[.val (.int p1), .val (.int p2), .val (.int p3), .val (.int p4), .val (.ref av1), .val (.ref av3), .unset, .unset, .unset, .unset, .unset, .unset, .unset] [(.int p3)])) rfl (by rw [hml]; rfl) (argsL := [(.int p3)]) (rest := []) (lenOf pd_0 rfl) rfl (by show 2 * 0 + _ ≤ _; exact Nat.le_of_eq rfl) (hb hby at_13) (fun _ _ => ⟨rfl, rfl, (by decide : 2 + 1 ≤ _), (by decide : 2 + 1 ≤ _)⟩)
  dsimp only [Pt.U, Pt.locs, Pt.cells, Pt.slots] at X5 l5 y5 z5 st5 hQ5
  subst l5 y5 z5
  obtain ⟨av5, rfl, N5q, Ev5⟩ := hQ5
  have N5 := Fr.app N3 N5q
  obtain ⟨T6, h6, X6, e6, E6, A6, D6, -, st6⟩ := newO X5 hx hZ hown (ow hw 7 rfl) (ow hw 8 rfl) (ow hw 9 rfl) rfl (g := (mkF m 18 #[.val (.int p1), .val (.int p2), .val (.int p3), .val (.int p4), .val (.ref av1), .val (.ref av3), .val (.ref av5), .unset, .unset, .unset, .unset, .unset, .unset] [])) rfl (hb hby at_18) (by decide) (by decide)
  obtain ⟨b6, g_b6⟩ : ∃ z, z = T5.heap.size := ⟨_, rfl⟩
  rw [← g_b6] at A6 D6 st6
  have g0_b6 : n0 ≤ b6 := Nat.le_trans (Nat.le_trans (Nat.le_trans (Nat.le_trans Z0 Ev1.1) Ev3.1) Ev5.1) (Nat.le_of_eq g_b6.symm)
  have sz_b6 : h0.size ≤ b6 := Nat.le_trans (Nat.le_trans (Nat.le_trans (Nat.le_trans (Nat.le_refl _) Ev1.1) Ev3.1) Ev5.1) (Nat.le_of_eq g_b6.symm)
  have F_node_b6 : Fld Z h6 b6 "com/example/framelatch/framelatch/Tree$Place" "node" "Ljava/lang/Object;" .null := D6 (Or.inr (ow hw 17 rfl)) (ty := (.object "java/lang/Object")) (by decide)
  have F_top_b6 : Fld Z h6 b6 "com/example/framelatch/framelatch/Tree$Place" "top" "Ljava/lang/Object;" .null := D6 (Or.inl (ow hw 19 rfl)) (ty := (.object "java/lang/Object")) (by decide)
  have F_parent_b6 : Fld Z h6 b6 "com/example/framelatch/framelatch/Tree$Place" "parent" "Lcom/example/framelatch/framelatch/Tree$Place;" .null := D6 (Or.inl (ow hw 27 rfl)) (ty := (.object "com/example/framelatch/framelatch/Tree$Place")) (by decide)
  have F_link_b6 : Fld Z h6 b6 "com/example/framelatch/framelatch/Tree$Place" "link" "Lcom/example/framelatch/framelatch/Tree$Place;" .null := D6 (Or.inl (ow hw 33 rfl)) (ty := (.object "com/example/framelatch/framelatch/Tree$Place")) (by decide)
  have F_rank_b6 : Fld Z h6 b6 "com/example/framelatch/framelatch/Tree$Place" "rank" "I" (.int (0 : Int32)) := D6 (Or.inl (ow hw 35 rfl)) (ty := .int) (by decide)
  obtain ⟨_, _, ⟨T7, L7, k7, n7⟩, -, X7, ⟨Lc7, hQ7, l7, y7, z7⟩, st7⟩ := X6.specialBack hx (y := nm_2) rfl hown (mvT hZ (ow hw 10 rfl)) (mvT hZ (ow hw 11 rfl)) (mvT hZ (ow hw 12 rfl)) (by decide) (backOf (W := 1) (rm2 l Z a0 hw [] b6 av1 h6 n0 (Nat.le_trans (Nat.le_trans (Nat.le_trans (Nat.le_trans Z0 Ev1.1) Ev3.1) Ev5.1) E6.1) g0_b6 ⟨A6, F_node_b6, F_top_b6, F_parent_b6, F_link_b6, F_rank_b6⟩) hZ (ow hw 12 rfl) (ow hw 9 rfl) (by decide) (by decide)) (g := (mkF m 24 #[.val (.int p1), .val (.int p2), .val (.int p3), .val (.int p4), .val (.ref av1), .val (.ref av3), .val (.ref av5), .unset, .unset, .unset, .unset, .unset, .unset] [(.ref av1), (.ref b6), (.ref b6)])) rfl (by rw [hml]; rfl) (Steps.refl _) (a := b6) (argsL := [(.ref av1)]) (rest := [(.ref b6)]) (lenOf pd_1 rfl) rfl (by show 2 * 0 + _ ≤ _; exact Nat.le_of_eq rfl) (hb hby at_24) (fun _ _ => ⟨rfl, e6, (by decide : 4 + 0 ≤ _), (by decide : 8 + 0 ≤ _)⟩)
  dsimp only [Pt.U, Pt.locs, Pt.cells, Pt.slots] at X7 l7 y7 z7 st7 hQ7
  subst l7 y7 z7
  obtain ⟨rfl, N7q, K7, PB7⟩ := hQ7
  have N7 := Fr.app N5 N7q
  obtain ⟨Epl8, Fapl8, Fbpl8, Fcpl8, Fdpl8, Fepl8⟩ := PB7
  obtain ⟨T9, h9, X9, e9, E9, A9, D9, -, st9⟩ := newO X7 hx hZ hown (ow hw 7 rfl) (ow hw 8 rfl) (ow hw 9 rfl) rfl (g := (mkF m 29 #[.val (.int p1), .val (.int p2), .val (.int p3), .val (.int p4), .val (.ref av1), .val (.ref av3), .val (.ref av5), .val (.ref b6), .unset, .unset, .unset, .unset, .unset] [])) rfl (hb hby at_29) (by decide) (by decide)
  obtain ⟨b9, g_b9⟩ : ∃ z, z = T7.heap.size := ⟨_, rfl⟩
  rw [← g_b9] at A9 D9 st9
  have g0_b9 : n0 ≤ b9 := Nat.le_trans (Nat.le_trans (Nat.le_trans (Nat.le_trans (Nat.le_trans (Nat.le_trans Z0 Ev1.1) Ev3.1) Ev5.1) E6.1) K7.1) (Nat.le_of_eq g_b9.symm)
  have sz_b9 : h0.size ≤ b9 := Nat.le_trans (Nat.le_trans (Nat.le_trans (Nat.le_trans (Nat.le_trans (Nat.le_trans (Nat.le_refl _) Ev1.1) Ev3.1) Ev5.1) E6.1) K7.1) (Nat.le_of_eq g_b9.symm)
  have ne_b6_b9 : b6 ≠ b9 := Nat.ne_of_lt (Nat.lt_of_lt_of_le Epl8.lt (Nat.le_of_eq g_b9.symm))
  have F_node_b9 : Fld Z h9 b9 "com/example/framelatch/framelatch/Tree$Place" "node" "Ljava/lang/Object;" .null := D9 (Or.inr (ow hw 17 rfl)) (ty := (.object "java/lang/Object")) (by decide)
  have F_top_b9 : Fld Z h9 b9 "com/example/framelatch/framelatch/Tree$Place" "top" "Ljava/lang/Object;" .null := D9 (Or.inl (ow hw 19 rfl)) (ty := (.object "java/lang/Object")) (by decide)
  have F_parent_b9 : Fld Z h9 b9 "com/example/framelatch/framelatch/Tree$Place" "parent" "Lcom/example/framelatch/framelatch/Tree$Place;" .null := D9 (Or.inl (ow hw 27 rfl)) (ty := (.object "com/example/framelatch/framelatch/Tree$Place")) (by decide)
  have F_link_b9 : Fld Z h9 b9 "com/example/framelatch/framelatch/Tree$Place" "link" "Lcom/example/framelatch/framelatch/Tree$Place;" .null := D9 (Or.inl (ow hw 33 rfl)) (ty := (.object "com/example/framelatch/framelatch/Tree$Place")) (by decide)
  have F_rank_b9 : Fld Z h9 b9 "com/example/framelatch/framelatch/Tree$Place" "rank" "I" (.int (0 : Int32)) := D9 (Or.inl (ow hw 35 rfl)) (ty := .int) (by decide)
  obtain ⟨_, _, ⟨T10, L10, k10, n10⟩, -, X10, ⟨Lc10, hQ10, l10, y10, z10⟩, st10⟩ := X9.specialBack hx (y := nm_2) rfl hown (mvT hZ (ow hw 10 rfl)) (mvT hZ (ow hw 11 rfl)) (mvT hZ (ow hw 12 rfl)) (by decide) (backOf (W := 1) (rm2 l Z a0 hw [] b9 av3 h9 n0 (Nat.le_trans (Nat.le_trans (Nat.le_trans (Nat.le_trans (Nat.le_trans (Nat.le_trans Z0 Ev1.1) Ev3.1) Ev5.1) E6.1) K7.1) E9.1) g0_b9 ⟨A9, F_node_b9, F_top_b9, F_parent_b9, F_link_b9, F_rank_b9⟩) hZ (ow hw 12 rfl) (ow hw 9 rfl) (by decide) (by decide)) (g := (mkF m 35 #[.val (.int p1), .val (.int p2), .val (.int p3), .val (.int p4), .val (.ref av1), .val (.ref av3), .val (.ref av5), .val (.ref b6), .unset, .unset, .unset, .unset, .unset] [(.ref av3), (.ref b9), (.ref b9)])) rfl (by rw [hml]; rfl) (Steps.refl _) (a := b9) (argsL := [(.ref av3)]) (rest := [(.ref b9)]) (lenOf pd_1 rfl) rfl (by show 2 * 0 + _ ≤ _; exact Nat.le_of_eq rfl) (hb hby at_35) (fun _ _ => ⟨rfl, e9, (by decide : 5 + 0 ≤ _), (by decide : 13 + 0 ≤ _)⟩)
  dsimp only [Pt.U, Pt.locs, Pt.cells, Pt.slots] at X10 l10 y10 z10 st10 hQ10
  subst l10 y10 z10
  obtain ⟨rfl, N10q, K10, PB10⟩ := hQ10
  have N10 := Fr.app N7 N10q
  obtain ⟨Epl11, Fapl11, Fbpl11, Fcpl11, Fdpl11, Fepl11⟩ := PB10
  obtain ⟨T12, h12, X12, e12, E12, A12, D12, -, st12⟩ := newO X10 hx hZ hown (ow hw 7 rfl) (ow hw 8 rfl) (ow hw 9 rfl) rfl (g := (mkF m 40 #[.val (.int p1), .val (.int p2), .val (.int p3), .val (.int p4), .val (.ref av1), .val (.ref av3), .val (.ref av5), .val (.ref b6), .val (.ref b9), .unset, .unset, .unset, .unset] [])) rfl (hb hby at_40) (by decide) (by decide)
  obtain ⟨b12, g_b12⟩ : ∃ z, z = T10.heap.size := ⟨_, rfl⟩
  rw [← g_b12] at A12 D12 st12
  have g0_b12 : n0 ≤ b12 := Nat.le_trans (Nat.le_trans (Nat.le_trans (Nat.le_trans (Nat.le_trans (Nat.le_trans (Nat.le_trans (Nat.le_trans Z0 Ev1.1) Ev3.1) Ev5.1) E6.1) K7.1) E9.1) K10.1) (Nat.le_of_eq g_b12.symm)
  have sz_b12 : h0.size ≤ b12 := Nat.le_trans (Nat.le_trans (Nat.le_trans (Nat.le_trans (Nat.le_trans (Nat.le_trans (Nat.le_trans (Nat.le_trans (Nat.le_refl _) Ev1.1) Ev3.1) Ev5.1) E6.1) K7.1) E9.1) K10.1) (Nat.le_of_eq g_b12.symm)
  have c13 := Epl8.ext E9
  have c14 := c13.keep K10
  have ne_b6_b12 : b6 ≠ b12 := Nat.ne_of_lt (Nat.lt_of_lt_of_le c14.lt (Nat.le_of_eq g_b12.symm))
  have ne_b9_b12 : b9 ≠ b12 := Nat.ne_of_lt (Nat.lt_of_lt_of_le Epl11.lt (Nat.le_of_eq g_b12.symm))
  have F_node_b12 : Fld Z h12 b12 "com/example/framelatch/framelatch/Tree$Place" "node" "Ljava/lang/Object;" .null := D12 (Or.inr (ow hw 17 rfl)) (ty := (.object "java/lang/Object")) (by decide)
  have F_top_b12 : Fld Z h12 b12 "com/example/framelatch/framelatch/Tree$Place" "top" "Ljava/lang/Object;" .null := D12 (Or.inl (ow hw 19 rfl)) (ty := (.object "java/lang/Object")) (by decide)
  have F_parent_b12 : Fld Z h12 b12 "com/example/framelatch/framelatch/Tree$Place" "parent" "Lcom/example/framelatch/framelatch/Tree$Place;" .null := D12 (Or.inl (ow hw 27 rfl)) (ty := (.object "com/example/framelatch/framelatch/Tree$Place")) (by decide)
  have F_link_b12 : Fld Z h12 b12 "com/example/framelatch/framelatch/Tree$Place" "link" "Lcom/example/framelatch/framelatch/Tree$Place;" .null := D12 (Or.inl (ow hw 33 rfl)) (ty := (.object "com/example/framelatch/framelatch/Tree$Place")) (by decide)
  have F_rank_b12 : Fld Z h12 b12 "com/example/framelatch/framelatch/Tree$Place" "rank" "I" (.int (0 : Int32)) := D12 (Or.inl (ow hw 35 rfl)) (ty := .int) (by decide)
  obtain ⟨_, _, ⟨T15, L15, k15, n15⟩, -, X15, ⟨Lc15, hQ15, l15, y15, z15⟩, st15⟩ := X12.specialBack hx (y := nm_2) rfl hown (mvT hZ (ow hw 10 rfl)) (mvT hZ (ow hw 11 rfl)) (mvT hZ (ow hw 12 rfl)) (by decide) (backOf (W := 1) (rm2 l Z a0 hw [] b12 av5 h12 n0 (Nat.le_trans (Nat.le_trans (Nat.le_trans (Nat.le_trans (Nat.le_trans (Nat.le_trans (Nat.le_trans (Nat.le_trans Z0 Ev1.1) Ev3.1) Ev5.1) E6.1) K7.1) E9.1) K10.1) E12.1) g0_b12 ⟨A12, F_node_b12, F_top_b12, F_parent_b12, F_link_b12, F_rank_b12⟩) hZ (ow hw 12 rfl) (ow hw 9 rfl) (by decide) (by decide)) (g := (mkF m 46 #[.val (.int p1), .val (.int p2), .val (.int p3), .val (.int p4), .val (.ref av1), .val (.ref av3), .val (.ref av5), .val (.ref b6), .val (.ref b9), .unset, .unset, .unset, .unset] [(.ref av5), (.ref b12), (.ref b12)])) rfl (by rw [hml]; rfl) (Steps.refl _) (a := b12) (argsL := [(.ref av5)]) (rest := [(.ref b12)]) (lenOf pd_1 rfl) rfl (by show 2 * 0 + _ ≤ _; exact Nat.le_of_eq rfl) (hb hby at_46) (fun _ _ => ⟨rfl, e12, (by decide : 6 + 0 ≤ _), (by decide : 18 + 0 ≤ _)⟩)
  dsimp only [Pt.U, Pt.locs, Pt.cells, Pt.slots] at X15 l15 y15 z15 st15 hQ15
  subst l15 y15 z15
  obtain ⟨rfl, N15q, K15, PB15⟩ := hQ15
  have N15 := Fr.app N10 N15q
  obtain ⟨Epl16, Fapl16, Fbpl16, Fcpl16, Fdpl16, Fepl16⟩ := PB15
  have c17 := Epl11.ext E12
  have c18 := c17.keep K15
  have c19 := Fapl11.ext E12
  have c20 := c19.keep K15 (ninS ne_b9_b12 nin0)
  have c21 := Fbpl11.ext E12
  have c22 := c21.keep K15 (ninS ne_b9_b12 nin0)
  have c23 := Fcpl11.ext E12
  have c24 := c23.keep K15 (ninS ne_b9_b12 nin0)
  have c25 := Fdpl11.ext E12
  have c26 := c25.keep K15 (ninS ne_b9_b12 nin0)
  have c27 := Fepl11.ext E12
  have c28 := c27.keep K15 (ninS ne_b9_b12 nin0)
  obtain ⟨cq29, kq29, q29a, q29b, q29c⟩ := isOf hZ rfl Epl16
  obtain ⟨_, _, ⟨T29, L29, k29, n29⟩, -, X29, ⟨Lc29, hQ29, l29, y29, z29⟩, st29⟩ := X15.virtualBack hx (y := nm_4) (z := nm_4) hown (mvT hZ (ow hw 21 rfl)) (mvT hZ (ow hw 22 rfl)) (notFace_of_selects (args := #[]) (mvT hZ (ow hw 24 rfl))) (mvT hZ (ow hw 24 rfl)) (mvT hZ (ow hw 23 rfl)) (by decide) (backOf (W := 0) (rm4_A l Z a0 hw [] b12 b9 (.ref av5) (.ref av5) .null (0 : Int32) (.ref av3) av3 .null (0 : Int32) T15.heap n0 (Nat.le_trans (Nat.le_trans (Nat.le_trans (Nat.le_trans (Nat.le_trans (Nat.le_trans (Nat.le_trans (Nat.le_trans (Nat.le_trans Z0 Ev1.1) Ev3.1) Ev5.1) E6.1) K7.1) E9.1) K10.1) E12.1) K15.1) (Ne.symm ne_b9_b12) g0_b12 g0_b9 ⟨Epl16, Fapl16, Fbpl16, Fcpl16, Fdpl16, Fepl16⟩ ⟨c18, c20, c22, c24, c26, c28⟩ (by decide) (by decide)) hZ (ow hw 25 rfl) (ow hw 9 rfl) (by decide) (by decide)) q29a q29c (g := (mkF m 126 #[.val (.int p1), .val (.int p2), .val (.int p3), .val (.int p4), .val (.ref av1), .val (.ref av3), .val (.ref av5), .val (.ref b6), .val (.ref b9), .val (.ref b12), .val (.int ((p4 &&& (2147483647 : Int32)) % (5 : Int32))), .val .null, .val .null] [(.ref b9), (.ref b12)])) rfl (by rw [hml]; rfl) (Steps.refl _) (argsL := [(.ref b9)]) (rest := []) (lenOf pd_3 rfl) rfl (by show 2 * 0 + _ ≤ _; exact Nat.le_of_eq rfl) (hb hby at_126) (fun _ _ => ⟨rfl, rfl, (by decide : 6 + 0 ≤ _), (by decide : 18 + 0 ≤ _)⟩)
  dsimp only [Pt.U, Pt.locs, Pt.cells, Pt.slots] at X29 l29 y29 z29 st29 hQ29
  subst l29 y29 z29
  obtain ⟨rfl, N29q, K29, Pu29, Pw29⟩ := hQ29
  have N29 := Fr.app N15 N29q
  obtain ⟨Epl30, Fapl30, Fbpl30, Fcpl30, Fdpl30, Fepl30⟩ := Pu29
  obtain ⟨Epl31, Fapl31, Fbpl31, Fcpl31, Fdpl31, Fepl31⟩ := Pw29
  have c32 := c14.ext E12
  have c33 := c32.keep K15
  have c34 := c33.keep K29
  have c35 := Fapl8.ext E9
  have c36 := c35.keep K10 (ninS ne_b6_b9 nin0)
  have c37 := c36.ext E12
  have c38 := c37.keep K15 (ninS ne_b6_b12 nin0)
  have c39 := c38.keep K29 (ninS ne_b6_b12 (ninS ne_b6_b9 nin0))
  have c40 := Fbpl8.ext E9
  have c41 := c40.keep K10 (ninS ne_b6_b9 nin0)
  have c42 := c41.ext E12
  have c43 := c42.keep K15 (ninS ne_b6_b12 nin0)
  have c44 := c43.keep K29 (ninS ne_b6_b12 (ninS ne_b6_b9 nin0))
  have c45 := Fcpl8.ext E9
  have c46 := c45.keep K10 (ninS ne_b6_b9 nin0)
  have c47 := c46.ext E12
  have c48 := c47.keep K15 (ninS ne_b6_b12 nin0)
  have c49 := c48.keep K29 (ninS ne_b6_b12 (ninS ne_b6_b9 nin0))
  have c50 := Fdpl8.ext E9
  have c51 := c50.keep K10 (ninS ne_b6_b9 nin0)
  have c52 := c51.ext E12
  have c53 := c52.keep K15 (ninS ne_b6_b12 nin0)
  have c54 := c53.keep K29 (ninS ne_b6_b12 (ninS ne_b6_b9 nin0))
  have c55 := Fepl8.ext E9
  have c56 := c55.keep K10 (ninS ne_b6_b9 nin0)
  have c57 := c56.ext E12
  have c58 := c57.keep K15 (ninS ne_b6_b12 nin0)
  have c59 := c58.keep K29 (ninS ne_b6_b12 (ninS ne_b6_b9 nin0))
  obtain ⟨cq60, kq60, q60a, q60b, q60c⟩ := isOf hZ rfl Epl31
  obtain ⟨_, _, ⟨T60, L60, k60, n60⟩, -, X60, ⟨Lc60, hQ60, l60, y60, z60⟩, st60⟩ := X29.virtualBack hx (y := nm_4) (z := nm_4) hown (mvT hZ (ow hw 21 rfl)) (mvT hZ (ow hw 22 rfl)) (notFace_of_selects (args := #[]) (mvT hZ (ow hw 24 rfl))) (mvT hZ (ow hw 24 rfl)) (mvT hZ (ow hw 23 rfl)) (by decide) (backOf (W := 0) (rm4_C l Z a0 hw [] b9 b6 (.ref av3) (.ref av3) .null ((0 : Int32) + (1 : Int32)) (.ref av1) av1 .null (0 : Int32) T29.heap n0 (Nat.le_trans (Nat.le_trans (Nat.le_trans (Nat.le_trans (Nat.le_trans (Nat.le_trans (Nat.le_trans (Nat.le_trans (Nat.le_trans (Nat.le_trans Z0 Ev1.1) Ev3.1) Ev5.1) E6.1) K7.1) E9.1) K10.1) E12.1) K15.1) K29.1) (Ne.symm ne_b6_b9) g0_b9 g0_b6 ⟨Epl31, Fapl31, Fbpl31, Fcpl31, Fdpl31, Fepl31⟩ ⟨c34, c39, c44, c49, c54, c59⟩ (by decide)) hZ (ow hw 25 rfl) (ow hw 9 rfl) (by decide) (by decide)) q60a q60c (g := (mkF m 133 #[.val (.int p1), .val (.int p2), .val (.int p3), .val (.int p4), .val (.ref av1), .val (.ref av3), .val (.ref av5), .val (.ref b6), .val (.ref b9), .val (.ref b12), .val (.int ((p4 &&& (2147483647 : Int32)) % (5 : Int32))), .val .null, .val .null] [(.ref b6), (.ref b9)])) rfl (by rw [hml]; rfl) (Steps.refl _) (argsL := [(.ref b6)]) (rest := []) (lenOf pd_3 rfl) rfl (by show 2 * 0 + _ ≤ _; exact Nat.le_of_eq rfl) (hb hby at_133) (fun _ _ => ⟨rfl, rfl, (by decide : 6 + 0 ≤ _), (by decide : 18 + 0 ≤ _)⟩)
  dsimp only [Pt.U, Pt.locs, Pt.cells, Pt.slots] at X60 l60 y60 z60 st60 hQ60
  subst l60 y60 z60
  obtain ⟨rfl, N60q, K60, Pu60, Pw60⟩ := hQ60
  have N60 := Fr.app N29 N60q
  obtain ⟨Epl61, Fapl61, Fbpl61, Fcpl61, Fdpl61, Fepl61⟩ := Pu60
  obtain ⟨Epl62, Fapl62, Fbpl62, Fcpl62, Fdpl62, Fepl62⟩ := Pw60
  obtain ⟨cq63, kq63, q63a, q63b, q63c⟩ := isOf hZ rfl Epl62
  obtain ⟨_, _, ⟨T63, L63, k63, n63⟩, -, X63, ⟨Lc63, hQ63, l63, y63, z63⟩, st63⟩ := X60.virtualBack hx (y := nm_6) (z := nm_6) hown (mvT hZ (ow hw 36 rfl)) (mvT hZ (ow hw 37 rfl)) (notFace_of_selects (args := #[]) (mvT hZ (ow hw 39 rfl))) (mvT hZ (ow hw 39 rfl)) (mvT hZ (ow hw 38 rfl)) (by decide) (backOf (W := 0) (rm6_N l Z a0 hw [] b6 T60.heap n0 (Nat.le_trans (Nat.le_trans (Nat.le_trans (Nat.le_trans (Nat.le_trans (Nat.le_trans (Nat.le_trans (Nat.le_trans (Nat.le_trans (Nat.le_trans (Nat.le_trans Z0 Ev1.1) Ev3.1) Ev5.1) E6.1) K7.1) E9.1) K10.1) E12.1) K15.1) K29.1) K60.1) Fcpl62) hZ (ow hw 40 rfl) (ow hw 9 rfl) (by decide) (by decide)) q63a q63c (g := (mkF m 177 #[.val (.int p1), .val (.int p2), .val (.int p3), .val (.int p4), .val (.ref av1), .val (.ref av3), .val (.ref av5), .val (.ref b6), .val (.ref b9), .val (.ref b12), .val (.int ((p4 &&& (2147483647 : Int32)) % (5 : Int32))), .val (.ref av1), .val (.ref av3)] [(.ref b6)])) rfl (by rw [hml]; rfl) (Steps.refl _) (argsL := []) (rest := []) (lenOf pd_5 rfl) rfl (by show 2 * 0 + _ ≤ _; exact Nat.le_of_eq rfl) (hb hby at_177) (fun _ _ => ⟨rfl, rfl, (by decide : 6 + 0 ≤ _), (by decide : 18 + 0 ≤ _)⟩)
  dsimp only [Pt.U, Pt.locs, Pt.cells, Pt.slots] at X63 l63 y63 z63 st63 hQ63
  subst l63 y63 z63
  obtain ⟨rfl, N63q, e63⟩ := hQ63
  have N63 := Fr.app N60 N63q
  obtain ⟨cq64, kq64, q64a, q64b, q64c⟩ := isOf hZ e63 Epl61
  obtain ⟨_, _, ⟨T64, L64, k64, n64⟩, -, X64, ⟨Lc64, hQ64, l64, y64, z64⟩, st64⟩ := X63.virtualBack hx (y := nm_6) (z := nm_6) hown (mvT hZ (ow hw 36 rfl)) (mvT hZ (ow hw 37 rfl)) (notFace_of_selects (args := #[]) (mvT hZ (ow hw 39 rfl))) (mvT hZ (ow hw 39 rfl)) (mvT hZ (ow hw 38 rfl)) (by decide) (backOf (W := 0) (rm6_R l Z a0 hw [] b9 b6 av1 T60.heap n0 (Nat.le_trans (Nat.le_trans (Nat.le_trans (Nat.le_trans (Nat.le_trans (Nat.le_trans (Nat.le_trans (Nat.le_trans (Nat.le_trans (Nat.le_trans (Nat.le_trans Z0 Ev1.1) Ev3.1) Ev5.1) E6.1) K7.1) E9.1) K10.1) E12.1) K15.1) K29.1) K60.1) Fcpl61 Fapl62) hZ (ow hw 40 rfl) (ow hw 9 rfl) (by decide) (by decide)) q64a q64c (g := (mkF m 185 #[.val (.int p1), .val (.int p2), .val (.int p3), .val (.int p4), .val (.ref av1), .val (.ref av3), .val (.ref av5), .val (.ref b6), .val (.ref b9), .val (.ref b12), .val (.int ((p4 &&& (2147483647 : Int32)) % (5 : Int32))), .val (.ref av1), .val (.ref av3)] [(.ref b9)])) rfl (by rw [hml]; rfl) (Steps.refl _) (argsL := []) (rest := []) (lenOf pd_5 rfl) rfl (by show 2 * 0 + _ ≤ _; exact Nat.le_of_eq rfl) (hb hby at_185) (fun _ _ => ⟨rfl, e63, (by decide : 6 + 0 ≤ _), (by decide : 18 + 0 ≤ _)⟩)
  dsimp only [Pt.U, Pt.locs, Pt.cells, Pt.slots] at X64 l64 y64 z64 st64 hQ64
  subst l64 y64 z64
  obtain ⟨rfl, N64q, e64⟩ := hQ64
  have N64 := Fr.app N63 N64q
  have c65 := Fcpl30.keep K60 (ninS (Ne.symm ne_b9_b12) (ninS (Ne.symm ne_b6_b12) nin0))
  have c67 := Epl30.keep K60
  obtain ⟨cq66, kq66, q66a, q66b, q66c⟩ := isOf hZ e64 c67
  obtain ⟨_, _, ⟨T66, L66, k66, n66⟩, -, X66, ⟨Lc66, hQ66, l66, y66, z66⟩, st66⟩ := X64.virtualBack hx (y := nm_6) (z := nm_6) hown (mvT hZ (ow hw 36 rfl)) (mvT hZ (ow hw 37 rfl)) (notFace_of_selects (args := #[]) (mvT hZ (ow hw 39 rfl))) (mvT hZ (ow hw 39 rfl)) (mvT hZ (ow hw 38 rfl)) (by decide) (backOf (W := 0) (rm6_R l Z a0 hw [] b12 b9 av3 T60.heap n0 (Nat.le_trans (Nat.le_trans (Nat.le_trans (Nat.le_trans (Nat.le_trans (Nat.le_trans (Nat.le_trans (Nat.le_trans (Nat.le_trans (Nat.le_trans (Nat.le_trans Z0 Ev1.1) Ev3.1) Ev5.1) E6.1) K7.1) E9.1) K10.1) E12.1) K15.1) K29.1) K60.1) c65 Fapl61) hZ (ow hw 40 rfl) (ow hw 9 rfl) (by decide) (by decide)) q66a q66c (g := (mkF m 195 #[.val (.int p1), .val (.int p2), .val (.int p3), .val (.int p4), .val (.ref av1), .val (.ref av3), .val (.ref av5), .val (.ref b6), .val (.ref b9), .val (.ref b12), .val (.int ((p4 &&& (2147483647 : Int32)) % (5 : Int32))), .val (.ref av1), .val (.ref av3)] [(.ref b12)])) rfl (by rw [hml]; rfl) (Steps.refl _) (argsL := []) (rest := []) (lenOf pd_5 rfl) rfl (by show 2 * 0 + _ ≤ _; exact Nat.le_of_eq rfl) (hb hby at_195) (fun _ _ => ⟨rfl, e64, (by decide : 6 + 0 ≤ _), (by decide : 18 + 0 ≤ _)⟩)
  dsimp only [Pt.U, Pt.locs, Pt.cells, Pt.slots] at X66 l66 y66 z66 st66 hQ66
  subst l66 y66 z66
  obtain ⟨rfl, N66q, e66⟩ := hQ66
  have N66 := Fr.app N64 N66q
  obtain ⟨fs, hr, hrun, hended, hW, hsame⟩ := X66.leave (v := some (.int (1 : Int32))) (fun h => by rw [Bd.returns] at h; cases h)
  refine ⟨_, _, pre0 _ ?_, hrun, hended, _, _, rfl, ?_, ⟨_, rfl⟩, hW, hsame.mono (by decide) (by decide)⟩
  · show Steps p.tables e below (s₁.setTop (mkF m 0 #[.val (.int p1), .val (.int p2), .val (.int p3), .val (.int p4), .unset, .unset, .unset, .unset, .unset, .unset, .unset, .unset, .unset] [])) _
    refine XS.iloadN X0.here hx rfl (hb hby at_0) rfl ?_
    show Steps p.tables e below (s₁.setTop (mkF m 1 #[.val (.int p1), .val (.int p2), .val (.int p3), .val (.int p4), .unset, .unset, .unset, .unset, .unset, .unset, .unset, .unset, .unset] [(.int p1)])) _
    refine st1 _ ?_
    show Steps p.tables e below (T1.setTop (mkF m 4 #[.val (.int p1), .val (.int p2), .val (.int p3), .val (.int p4), .unset, .unset, .unset, .unset, .unset, .unset, .unset, .unset, .unset] [(.ref av1)])) _
    refine XS.astore X1.here hx rfl (hb hby at_4) rfl rfl (l' := #[.val (.int p1), .val (.int p2), .val (.int p3), .val (.int p4), .val (.ref av1), .unset, .unset, .unset, .unset, .unset, .unset, .unset, .unset]) rfl ?_
    show Steps p.tables e below (T1.setTop (mkF m 6 #[.val (.int p1), .val (.int p2), .val (.int p3), .val (.int p4), .val (.ref av1), .unset, .unset, .unset, .unset, .unset, .unset, .unset, .unset] [])) _
    refine XS.iloadN X1.here hx rfl (hb hby at_6) rfl ?_
    show Steps p.tables e below (T1.setTop (mkF m 7 #[.val (.int p1), .val (.int p2), .val (.int p3), .val (.int p4), .val (.ref av1), .unset, .unset, .unset, .unset, .unset, .unset, .unset, .unset] [(.int p2)])) _
    refine st3 _ ?_
    show Steps p.tables e below (T3.setTop (mkF m 10 #[.val (.int p1), .val (.int p2), .val (.int p3), .val (.int p4), .val (.ref av1), .unset, .unset, .unset, .unset, .unset, .unset, .unset, .unset] [(.ref av3)])) _
    refine XS.astore X3.here hx rfl (hb hby at_10) rfl rfl (l' := #[.val (.int p1), .val (.int p2), .val (.int p3), .val (.int p4), .val (.ref av1), .val (.ref av3), .unset, .unset, .unset, .unset, .unset, .unset, .unset]) rfl ?_
    show Steps p.tables e below (T3.setTop (mkF m 12 #[.val (.int p1), .val (.int p2), .val (.int p3), .val (.int p4), .val (.ref av1), .val (.ref av3), .unset, .unset, .unset, .unset, .unset, .unset, .unset] [])) _
    refine XS.iloadN X3.here hx rfl (hb hby at_12) rfl ?_
    show Steps p.tables e below (T3.setTop (mkF m 13 #[.val (.int p1), .val (.int p2), .val (.int p3), .val (.int p4), .val (.ref av1), .val (.ref av3), .unset, .unset, .unset, .unset, .unset, .unset, .unset] [(.int p3)])) _
    refine st5 _ ?_
    show Steps p.tables e below (T5.setTop (mkF m 16 #[.val (.int p1), .val (.int p2), .val (.int p3), .val (.int p4), .val (.ref av1), .val (.ref av3), .unset, .unset, .unset, .unset, .unset, .unset, .unset] [(.ref av5)])) _
    refine XS.astore X5.here hx rfl (hb hby at_16) rfl rfl (l' := #[.val (.int p1), .val (.int p2), .val (.int p3), .val (.int p4), .val (.ref av1), .val (.ref av3), .val (.ref av5), .unset, .unset, .unset, .unset, .unset, .unset]) rfl ?_
    show Steps p.tables e below (T5.setTop (mkF m 18 #[.val (.int p1), .val (.int p2), .val (.int p3), .val (.int p4), .val (.ref av1), .val (.ref av3), .val (.ref av5), .unset, .unset, .unset, .unset, .unset, .unset] [])) _
    refine st6 _ ?_
    show Steps p.tables e below (T6.setTop (mkF m 21 #[.val (.int p1), .val (.int p2), .val (.int p3), .val (.int p4), .val (.ref av1), .val (.ref av3), .val (.ref av5), .unset, .unset, .unset, .unset, .unset, .unset] [(.ref b6)])) _
    refine XS.dup X6.here hx rfl (hb hby at_21) rfl rfl ?_
    show Steps p.tables e below (T6.setTop (mkF m 22 #[.val (.int p1), .val (.int p2), .val (.int p3), .val (.int p4), .val (.ref av1), .val (.ref av3), .val (.ref av5), .unset, .unset, .unset, .unset, .unset, .unset] [(.ref b6), (.ref b6)])) _
    refine XS.aload X6.here hx rfl (hb hby at_22) rfl rfl ?_
    show Steps p.tables e below (T6.setTop (mkF m 24 #[.val (.int p1), .val (.int p2), .val (.int p3), .val (.int p4), .val (.ref av1), .val (.ref av3), .val (.ref av5), .unset, .unset, .unset, .unset, .unset, .unset] [(.ref av1), (.ref b6), (.ref b6)])) _
    refine st7.trans ?_
    show Steps p.tables e below (T7.setTop (mkF m 27 #[.val (.int p1), .val (.int p2), .val (.int p3), .val (.int p4), .val (.ref av1), .val (.ref av3), .val (.ref av5), .unset, .unset, .unset, .unset, .unset, .unset] [(.ref b6)])) _
    refine XS.astore X7.here hx rfl (hb hby at_27) rfl rfl (l' := #[.val (.int p1), .val (.int p2), .val (.int p3), .val (.int p4), .val (.ref av1), .val (.ref av3), .val (.ref av5), .val (.ref b6), .unset, .unset, .unset, .unset, .unset]) rfl ?_
    show Steps p.tables e below (T7.setTop (mkF m 29 #[.val (.int p1), .val (.int p2), .val (.int p3), .val (.int p4), .val (.ref av1), .val (.ref av3), .val (.ref av5), .val (.ref b6), .unset, .unset, .unset, .unset, .unset] [])) _
    refine st9 _ ?_
    show Steps p.tables e below (T9.setTop (mkF m 32 #[.val (.int p1), .val (.int p2), .val (.int p3), .val (.int p4), .val (.ref av1), .val (.ref av3), .val (.ref av5), .val (.ref b6), .unset, .unset, .unset, .unset, .unset] [(.ref b9)])) _
    refine XS.dup X9.here hx rfl (hb hby at_32) rfl rfl ?_
    show Steps p.tables e below (T9.setTop (mkF m 33 #[.val (.int p1), .val (.int p2), .val (.int p3), .val (.int p4), .val (.ref av1), .val (.ref av3), .val (.ref av5), .val (.ref b6), .unset, .unset, .unset, .unset, .unset] [(.ref b9), (.ref b9)])) _
    refine XS.aload X9.here hx rfl (hb hby at_33) rfl rfl ?_
    show Steps p.tables e below (T9.setTop (mkF m 35 #[.val (.int p1), .val (.int p2), .val (.int p3), .val (.int p4), .val (.ref av1), .val (.ref av3), .val (.ref av5), .val (.ref b6), .unset, .unset, .unset, .unset, .unset] [(.ref av3), (.ref b9), (.ref b9)])) _
    refine st10.trans ?_
    show Steps p.tables e below (T10.setTop (mkF m 38 #[.val (.int p1), .val (.int p2), .val (.int p3), .val (.int p4), .val (.ref av1), .val (.ref av3), .val (.ref av5), .val (.ref b6), .unset, .unset, .unset, .unset, .unset] [(.ref b9)])) _
    refine XS.astore X10.here hx rfl (hb hby at_38) rfl rfl (l' := #[.val (.int p1), .val (.int p2), .val (.int p3), .val (.int p4), .val (.ref av1), .val (.ref av3), .val (.ref av5), .val (.ref b6), .val (.ref b9), .unset, .unset, .unset, .unset]) rfl ?_
    show Steps p.tables e below (T10.setTop (mkF m 40 #[.val (.int p1), .val (.int p2), .val (.int p3), .val (.int p4), .val (.ref av1), .val (.ref av3), .val (.ref av5), .val (.ref b6), .val (.ref b9), .unset, .unset, .unset, .unset] [])) _
    refine st12 _ ?_
    show Steps p.tables e below (T12.setTop (mkF m 43 #[.val (.int p1), .val (.int p2), .val (.int p3), .val (.int p4), .val (.ref av1), .val (.ref av3), .val (.ref av5), .val (.ref b6), .val (.ref b9), .unset, .unset, .unset, .unset] [(.ref b12)])) _
    refine XS.dup X12.here hx rfl (hb hby at_43) rfl rfl ?_
    show Steps p.tables e below (T12.setTop (mkF m 44 #[.val (.int p1), .val (.int p2), .val (.int p3), .val (.int p4), .val (.ref av1), .val (.ref av3), .val (.ref av5), .val (.ref b6), .val (.ref b9), .unset, .unset, .unset, .unset] [(.ref b12), (.ref b12)])) _
    refine XS.aload X12.here hx rfl (hb hby at_44) rfl rfl ?_
    show Steps p.tables e below (T12.setTop (mkF m 46 #[.val (.int p1), .val (.int p2), .val (.int p3), .val (.int p4), .val (.ref av1), .val (.ref av3), .val (.ref av5), .val (.ref b6), .val (.ref b9), .unset, .unset, .unset, .unset] [(.ref av5), (.ref b12), (.ref b12)])) _
    refine st15.trans ?_
    show Steps p.tables e below (T15.setTop (mkF m 49 #[.val (.int p1), .val (.int p2), .val (.int p3), .val (.int p4), .val (.ref av1), .val (.ref av3), .val (.ref av5), .val (.ref b6), .val (.ref b9), .unset, .unset, .unset, .unset] [(.ref b12)])) _
    refine XS.astore X15.here hx rfl (hb hby at_49) rfl rfl (l' := #[.val (.int p1), .val (.int p2), .val (.int p3), .val (.int p4), .val (.ref av1), .val (.ref av3), .val (.ref av5), .val (.ref b6), .val (.ref b9), .val (.ref b12), .unset, .unset, .unset]) rfl ?_
    show Steps p.tables e below (T15.setTop (mkF m 51 #[.val (.int p1), .val (.int p2), .val (.int p3), .val (.int p4), .val (.ref av1), .val (.ref av3), .val (.ref av5), .val (.ref b6), .val (.ref b9), .val (.ref b12), .unset, .unset, .unset] [])) _
    refine XS.iloadN X15.here hx rfl (hb hby at_51) rfl ?_
    show Steps p.tables e below (T15.setTop (mkF m 52 #[.val (.int p1), .val (.int p2), .val (.int p3), .val (.int p4), .val (.ref av1), .val (.ref av3), .val (.ref av5), .val (.ref b6), .val (.ref b9), .val (.ref b12), .unset, .unset, .unset] [(.int p4)])) _
    refine X15.ldcInt hx hown (mvT hZ (ow hw 20 rfl)) (g := (mkF m 52 #[.val (.int p1), .val (.int p2), .val (.int p3), .val (.int p4), .val (.ref av1), .val (.ref av3), .val (.ref av5), .val (.ref b6), .val (.ref b9), .val (.ref b12), .unset, .unset, .unset] [(.int p4)])) rfl (hb hby at_52) _ ?_
    show Steps p.tables e below (T15.setTop (mkF m 54 #[.val (.int p1), .val (.int p2), .val (.int p3), .val (.int p4), .val (.ref av1), .val (.ref av3), .val (.ref av5), .val (.ref b6), .val (.ref b9), .val (.ref b12), .unset, .unset, .unset] [(.int (2147483647 : Int32)), (.int p4)])) _
    refine XS.iand X15.here hx rfl (hb hby at_54) rfl ?_
    show Steps p.tables e below (T15.setTop (mkF m 55 #[.val (.int p1), .val (.int p2), .val (.int p3), .val (.int p4), .val (.ref av1), .val (.ref av3), .val (.ref av5), .val (.ref b6), .val (.ref b9), .val (.ref b12), .unset, .unset, .unset] [(.int (p4 &&& (2147483647 : Int32)))])) _
    refine XS.iconst X15.here hx rfl (hb hby at_55) ?_
    show Steps p.tables e below (T15.setTop (mkF m 56 #[.val (.int p1), .val (.int p2), .val (.int p3), .val (.int p4), .val (.ref av1), .val (.ref av3), .val (.ref av5), .val (.ref b6), .val (.ref b9), .val (.ref b12), .unset, .unset, .unset] [(.int (5 : Int32)), (.int (p4 &&& (2147483647 : Int32)))])) _
    refine iremM X15 hx (g := (mkF m 56 #[.val (.int p1), .val (.int p2), .val (.int p3), .val (.int p4), .val (.ref av1), .val (.ref av3), .val (.ref av5), .val (.ref b6), .val (.ref b9), .val (.ref b12), .unset, .unset, .unset] [(.int (5 : Int32)), (.int (p4 &&& (2147483647 : Int32)))])) rfl (hb hby at_56) rfl (by decide) ?_
    show Steps p.tables e below (T15.setTop (mkF m 57 #[.val (.int p1), .val (.int p2), .val (.int p3), .val (.int p4), .val (.ref av1), .val (.ref av3), .val (.ref av5), .val (.ref b6), .val (.ref b9), .val (.ref b12), .unset, .unset, .unset] [(.int ((p4 &&& (2147483647 : Int32)) % (5 : Int32)))])) _
    refine XS.istore X15.here hx rfl (hb hby at_57) rfl (l' := #[.val (.int p1), .val (.int p2), .val (.int p3), .val (.int p4), .val (.ref av1), .val (.ref av3), .val (.ref av5), .val (.ref b6), .val (.ref b9), .val (.ref b12), .val (.int ((p4 &&& (2147483647 : Int32)) % (5 : Int32))), .unset, .unset]) rfl ?_
    show Steps p.tables e below (T15.setTop (mkF m 59 #[.val (.int p1), .val (.int p2), .val (.int p3), .val (.int p4), .val (.ref av1), .val (.ref av3), .val (.ref av5), .val (.ref b6), .val (.ref b9), .val (.ref b12), .val (.int ((p4 &&& (2147483647 : Int32)) % (5 : Int32))), .unset, .unset] [])) _
    refine XS.aconstNull X15.here hx rfl (hb hby at_59) ?_
    show Steps p.tables e below (T15.setTop (mkF m 60 #[.val (.int p1), .val (.int p2), .val (.int p3), .val (.int p4), .val (.ref av1), .val (.ref av3), .val (.ref av5), .val (.ref b6), .val (.ref b9), .val (.ref b12), .val (.int ((p4 &&& (2147483647 : Int32)) % (5 : Int32))), .unset, .unset] [.null])) _
    refine XS.astore X15.here hx rfl (hb hby at_60) rfl rfl (l' := #[.val (.int p1), .val (.int p2), .val (.int p3), .val (.int p4), .val (.ref av1), .val (.ref av3), .val (.ref av5), .val (.ref b6), .val (.ref b9), .val (.ref b12), .val (.int ((p4 &&& (2147483647 : Int32)) % (5 : Int32))), .val .null, .unset]) rfl ?_
    show Steps p.tables e below (T15.setTop (mkF m 62 #[.val (.int p1), .val (.int p2), .val (.int p3), .val (.int p4), .val (.ref av1), .val (.ref av3), .val (.ref av5), .val (.ref b6), .val (.ref b9), .val (.ref b12), .val (.int ((p4 &&& (2147483647 : Int32)) % (5 : Int32))), .val .null, .unset] [])) _
    refine XS.aconstNull X15.here hx rfl (hb hby at_62) ?_
    show Steps p.tables e below (T15.setTop (mkF m 63 #[.val (.int p1), .val (.int p2), .val (.int p3), .val (.int p4), .val (.ref av1), .val (.ref av3), .val (.ref av5), .val (.ref b6), .val (.ref b9), .val (.ref b12), .val (.int ((p4 &&& (2147483647 : Int32)) % (5 : Int32))), .val .null, .unset] [.null])) _
    refine XS.astore X15.here hx rfl (hb hby at_63) rfl rfl (l' := #[.val (.int p1), .val (.int p2), .val (.int p3), .val (.int p4), .val (.ref av1), .val (.ref av3), .val (.ref av5), .val (.ref b6), .val (.ref b9), .val (.ref b12), .val (.int ((p4 &&& (2147483647 : Int32)) % (5 : Int32))), .val .null, .val .null]) rfl ?_
    show Steps p.tables e below (T15.setTop (mkF m 65 #[.val (.int p1), .val (.int p2), .val (.int p3), .val (.int p4), .val (.ref av1), .val (.ref av3), .val (.ref av5), .val (.ref b6), .val (.ref b9), .val (.ref b12), .val (.int ((p4 &&& (2147483647 : Int32)) % (5 : Int32))), .val .null, .val .null] [])) _
    refine XS.iload X15.here hx rfl (hb hby at_65) rfl ?_
    show Steps p.tables e below (T15.setTop (mkF m 67 #[.val (.int p1), .val (.int p2), .val (.int p3), .val (.int p4), .val (.ref av1), .val (.ref av3), .val (.ref av5), .val (.ref b6), .val (.ref b9), .val (.ref b12), .val (.int ((p4 &&& (2147483647 : Int32)) % (5 : Int32))), .val .null, .val .null] [(.int ((p4 &&& (2147483647 : Int32)) % (5 : Int32)))])) _
    refine XS.iconst X15.here hx rfl (hb hby at_67) ?_
    show Steps p.tables e below (T15.setTop (mkF m 68 #[.val (.int p1), .val (.int p2), .val (.int p3), .val (.int p4), .val (.ref av1), .val (.ref av3), .val (.ref av5), .val (.ref b6), .val (.ref b9), .val (.ref b12), .val (.int ((p4 &&& (2147483647 : Int32)) % (5 : Int32))), .val .null, .val .null] [(.int (1 : Int32)), (.int ((p4 &&& (2147483647 : Int32)) % (5 : Int32)))])) _
    refine XS.icmpYes X15.here hx rfl (pc0 := 68) (pc' := 85) rfl (hb hby at_68) rfl (feq hc68).2 (by decide) (by decide) ?_
    show Steps p.tables e below (T15.setTop (mkF m 85 #[.val (.int p1), .val (.int p2), .val (.int p3), .val (.int p4), .val (.ref av1), .val (.ref av3), .val (.ref av5), .val (.ref b6), .val (.ref b9), .val (.ref b12), .val (.int ((p4 &&& (2147483647 : Int32)) % (5 : Int32))), .val .null, .val .null] [])) _
    refine XS.iload X15.here hx rfl (hb hby at_85) rfl ?_
    show Steps p.tables e below (T15.setTop (mkF m 87 #[.val (.int p1), .val (.int p2), .val (.int p3), .val (.int p4), .val (.ref av1), .val (.ref av3), .val (.ref av5), .val (.ref b6), .val (.ref b9), .val (.ref b12), .val (.int ((p4 &&& (2147483647 : Int32)) % (5 : Int32))), .val .null, .val .null] [(.int ((p4 &&& (2147483647 : Int32)) % (5 : Int32)))])) _
    refine XS.iconst X15.here hx rfl (hb hby at_87) ?_
    show Steps p.tables e below (T15.setTop (mkF m 88 #[.val (.int p1), .val (.int p2), .val (.int p3), .val (.int p4), .val (.ref av1), .val (.ref av3), .val (.ref av5), .val (.ref b6), .val (.ref b9), .val (.ref b12), .val (.int ((p4 &&& (2147483647 : Int32)) % (5 : Int32))), .val .null, .val .null] [(.int (2 : Int32)), (.int ((p4 &&& (2147483647 : Int32)) % (5 : Int32)))])) _
    refine XS.icmpYes X15.here hx rfl (pc0 := 88) (pc' := 116) rfl (hb hby at_88) rfl (feq hc88).2 (by decide) (by decide) ?_
    show Steps p.tables e below (T15.setTop (mkF m 116 #[.val (.int p1), .val (.int p2), .val (.int p3), .val (.int p4), .val (.ref av1), .val (.ref av3), .val (.ref av5), .val (.ref b6), .val (.ref b9), .val (.ref b12), .val (.int ((p4 &&& (2147483647 : Int32)) % (5 : Int32))), .val .null, .val .null] [])) _
    refine XS.iload X15.here hx rfl (hb hby at_116) rfl ?_
    show Steps p.tables e below (T15.setTop (mkF m 118 #[.val (.int p1), .val (.int p2), .val (.int p3), .val (.int p4), .val (.ref av1), .val (.ref av3), .val (.ref av5), .val (.ref b6), .val (.ref b9), .val (.ref b12), .val (.int ((p4 &&& (2147483647 : Int32)) % (5 : Int32))), .val .null, .val .null] [(.int ((p4 &&& (2147483647 : Int32)) % (5 : Int32)))])) _
    refine XS.iconst X15.here hx rfl (hb hby at_118) ?_
    show Steps p.tables e below (T15.setTop (mkF m 119 #[.val (.int p1), .val (.int p2), .val (.int p3), .val (.int p4), .val (.ref av1), .val (.ref av3), .val (.ref av5), .val (.ref b6), .val (.ref b9), .val (.ref b12), .val (.int ((p4 &&& (2147483647 : Int32)) % (5 : Int32))), .val .null, .val .null] [(.int (3 : Int32)), (.int ((p4 &&& (2147483647 : Int32)) % (5 : Int32)))])) _
    refine XS.icmpNo X15.here hx rfl (hb hby at_119) rfl (teq hc119).2 ?_
    show Steps p.tables e below (T15.setTop (mkF m 122 #[.val (.int p1), .val (.int p2), .val (.int p3), .val (.int p4), .val (.ref av1), .val (.ref av3), .val (.ref av5), .val (.ref b6), .val (.ref b9), .val (.ref b12), .val (.int ((p4 &&& (2147483647 : Int32)) % (5 : Int32))), .val .null, .val .null] [])) _
    refine XS.aload X15.here hx rfl (hb hby at_122) rfl rfl ?_
    show Steps p.tables e below (T15.setTop (mkF m 124 #[.val (.int p1), .val (.int p2), .val (.int p3), .val (.int p4), .val (.ref av1), .val (.ref av3), .val (.ref av5), .val (.ref b6), .val (.ref b9), .val (.ref b12), .val (.int ((p4 &&& (2147483647 : Int32)) % (5 : Int32))), .val .null, .val .null] [(.ref b12)])) _
    refine XS.aload X15.here hx rfl (hb hby at_124) rfl rfl ?_
    show Steps p.tables e below (T15.setTop (mkF m 126 #[.val (.int p1), .val (.int p2), .val (.int p3), .val (.int p4), .val (.ref av1), .val (.ref av3), .val (.ref av5), .val (.ref b6), .val (.ref b9), .val (.ref b12), .val (.int ((p4 &&& (2147483647 : Int32)) % (5 : Int32))), .val .null, .val .null] [(.ref b9), (.ref b12)])) _
    refine st29.trans ?_
    show Steps p.tables e below (T29.setTop (mkF m 129 #[.val (.int p1), .val (.int p2), .val (.int p3), .val (.int p4), .val (.ref av1), .val (.ref av3), .val (.ref av5), .val (.ref b6), .val (.ref b9), .val (.ref b12), .val (.int ((p4 &&& (2147483647 : Int32)) % (5 : Int32))), .val .null, .val .null] [])) _
    refine XS.aload X29.here hx rfl (hb hby at_129) rfl rfl ?_
    show Steps p.tables e below (T29.setTop (mkF m 131 #[.val (.int p1), .val (.int p2), .val (.int p3), .val (.int p4), .val (.ref av1), .val (.ref av3), .val (.ref av5), .val (.ref b6), .val (.ref b9), .val (.ref b12), .val (.int ((p4 &&& (2147483647 : Int32)) % (5 : Int32))), .val .null, .val .null] [(.ref b9)])) _
    refine XS.aload X29.here hx rfl (hb hby at_131) rfl rfl ?_
    show Steps p.tables e below (T29.setTop (mkF m 133 #[.val (.int p1), .val (.int p2), .val (.int p3), .val (.int p4), .val (.ref av1), .val (.ref av3), .val (.ref av5), .val (.ref b6), .val (.ref b9), .val (.ref b12), .val (.int ((p4 &&& (2147483647 : Int32)) % (5 : Int32))), .val .null, .val .null] [(.ref b6), (.ref b9)])) _
    refine st60.trans ?_
    show Steps p.tables e below (T60.setTop (mkF m 136 #[.val (.int p1), .val (.int p2), .val (.int p3), .val (.int p4), .val (.ref av1), .val (.ref av3), .val (.ref av5), .val (.ref b6), .val (.ref b9), .val (.ref b12), .val (.int ((p4 &&& (2147483647 : Int32)) % (5 : Int32))), .val .null, .val .null] [])) _
    refine XS.aload X60.here hx rfl (hb hby at_136) rfl rfl ?_
    show Steps p.tables e below (T60.setTop (mkF m 138 #[.val (.int p1), .val (.int p2), .val (.int p3), .val (.int p4), .val (.ref av1), .val (.ref av3), .val (.ref av5), .val (.ref b6), .val (.ref b9), .val (.ref b12), .val (.int ((p4 &&& (2147483647 : Int32)) % (5 : Int32))), .val .null, .val .null] [(.ref av1)])) _
    refine XS.astore X60.here hx rfl (hb hby at_138) rfl rfl (l' := #[.val (.int p1), .val (.int p2), .val (.int p3), .val (.int p4), .val (.ref av1), .val (.ref av3), .val (.ref av5), .val (.ref b6), .val (.ref b9), .val (.ref b12), .val (.int ((p4 &&& (2147483647 : Int32)) % (5 : Int32))), .val (.ref av1), .val .null]) rfl ?_
    show Steps p.tables e below (T60.setTop (mkF m 140 #[.val (.int p1), .val (.int p2), .val (.int p3), .val (.int p4), .val (.ref av1), .val (.ref av3), .val (.ref av5), .val (.ref b6), .val (.ref b9), .val (.ref b12), .val (.int ((p4 &&& (2147483647 : Int32)) % (5 : Int32))), .val (.ref av1), .val .null] [])) _
    refine XS.aload X60.here hx rfl (hb hby at_140) rfl rfl ?_
    show Steps p.tables e below (T60.setTop (mkF m 142 #[.val (.int p1), .val (.int p2), .val (.int p3), .val (.int p4), .val (.ref av1), .val (.ref av3), .val (.ref av5), .val (.ref b6), .val (.ref b9), .val (.ref b12), .val (.int ((p4 &&& (2147483647 : Int32)) % (5 : Int32))), .val (.ref av1), .val .null] [(.ref av3)])) _
    refine XS.astore X60.here hx rfl (hb hby at_142) rfl rfl (l' := #[.val (.int p1), .val (.int p2), .val (.int p3), .val (.int p4), .val (.ref av1), .val (.ref av3), .val (.ref av5), .val (.ref b6), .val (.ref b9), .val (.ref b12), .val (.int ((p4 &&& (2147483647 : Int32)) % (5 : Int32))), .val (.ref av1), .val (.ref av3)]) rfl ?_
    show Steps p.tables e below (T60.setTop (mkF m 144 #[.val (.int p1), .val (.int p2), .val (.int p3), .val (.int p4), .val (.ref av1), .val (.ref av3), .val (.ref av5), .val (.ref b6), .val (.ref b9), .val (.ref b12), .val (.int ((p4 &&& (2147483647 : Int32)) % (5 : Int32))), .val (.ref av1), .val (.ref av3)] [])) _
    refine XS.goto X60.here hx rfl (pc0 := 144) (pc' := 175) rfl (hb hby at_144) (by decide) (by decide) ?_
    show Steps p.tables e below (T60.setTop (mkF m 175 #[.val (.int p1), .val (.int p2), .val (.int p3), .val (.int p4), .val (.ref av1), .val (.ref av3), .val (.ref av5), .val (.ref b6), .val (.ref b9), .val (.ref b12), .val (.int ((p4 &&& (2147483647 : Int32)) % (5 : Int32))), .val (.ref av1), .val (.ref av3)] [])) _
    refine XS.aload X60.here hx rfl (hb hby at_175) rfl rfl ?_
    show Steps p.tables e below (T60.setTop (mkF m 177 #[.val (.int p1), .val (.int p2), .val (.int p3), .val (.int p4), .val (.ref av1), .val (.ref av3), .val (.ref av5), .val (.ref b6), .val (.ref b9), .val (.ref b12), .val (.int ((p4 &&& (2147483647 : Int32)) % (5 : Int32))), .val (.ref av1), .val (.ref av3)] [(.ref b6)])) _
    refine st63.trans ?_
    show Steps p.tables e below (T63.setTop (mkF m 180 #[.val (.int p1), .val (.int p2), .val (.int p3), .val (.int p4), .val (.ref av1), .val (.ref av3), .val (.ref av5), .val (.ref b6), .val (.ref b9), .val (.ref b12), .val (.int ((p4 &&& (2147483647 : Int32)) % (5 : Int32))), .val (.ref av1), .val (.ref av3)] [.null])) _
    refine XS.ifnonnullNo X63.here hx rfl (hb hby at_180) rfl ?_
    show Steps p.tables e below (T63.setTop (mkF m 183 #[.val (.int p1), .val (.int p2), .val (.int p3), .val (.int p4), .val (.ref av1), .val (.ref av3), .val (.ref av5), .val (.ref b6), .val (.ref b9), .val (.ref b12), .val (.int ((p4 &&& (2147483647 : Int32)) % (5 : Int32))), .val (.ref av1), .val (.ref av3)] [])) _
    refine XS.aload X63.here hx rfl (hb hby at_183) rfl rfl ?_
    show Steps p.tables e below (T63.setTop (mkF m 185 #[.val (.int p1), .val (.int p2), .val (.int p3), .val (.int p4), .val (.ref av1), .val (.ref av3), .val (.ref av5), .val (.ref b6), .val (.ref b9), .val (.ref b12), .val (.int ((p4 &&& (2147483647 : Int32)) % (5 : Int32))), .val (.ref av1), .val (.ref av3)] [(.ref b9)])) _
    refine st64.trans ?_
    show Steps p.tables e below (T64.setTop (mkF m 188 #[.val (.int p1), .val (.int p2), .val (.int p3), .val (.int p4), .val (.ref av1), .val (.ref av3), .val (.ref av5), .val (.ref b6), .val (.ref b9), .val (.ref b12), .val (.int ((p4 &&& (2147483647 : Int32)) % (5 : Int32))), .val (.ref av1), .val (.ref av3)] [(.ref av1)])) _
    refine XS.aload X64.here hx rfl (hb hby at_188) rfl rfl ?_
    show Steps p.tables e below (T64.setTop (mkF m 190 #[.val (.int p1), .val (.int p2), .val (.int p3), .val (.int p4), .val (.ref av1), .val (.ref av3), .val (.ref av5), .val (.ref b6), .val (.ref b9), .val (.ref b12), .val (.int ((p4 &&& (2147483647 : Int32)) % (5 : Int32))), .val (.ref av1), .val (.ref av3)] [(.ref av1), (.ref av1)])) _
    refine Jvm.RoadKit.acmp (g := (mkF m 190 #[.val (.int p1), .val (.int p2), .val (.int p3), .val (.int p4), .val (.ref av1), .val (.ref av3), .val (.ref av5), .val (.ref b6), .val (.ref b9), .val (.ref b12), .val (.int ((p4 &&& (2147483647 : Int32)) % (5 : Int32))), .val (.ref av1), .val (.ref av3)] [(.ref av1), (.ref av1)])) X64 hx rfl rfl rfl (pc0 := 190) (pc' := 193) (same := true) rfl (hb hby at_190) rfl (decide_eq_true rfl) (by decide) (by decide) ?_
    show Steps p.tables e below (T64.setTop (mkF m 193 #[.val (.int p1), .val (.int p2), .val (.int p3), .val (.int p4), .val (.ref av1), .val (.ref av3), .val (.ref av5), .val (.ref b6), .val (.ref b9), .val (.ref b12), .val (.int ((p4 &&& (2147483647 : Int32)) % (5 : Int32))), .val (.ref av1), .val (.ref av3)] [])) _
    refine XS.aload X64.here hx rfl (hb hby at_193) rfl rfl ?_
    show Steps p.tables e below (T64.setTop (mkF m 195 #[.val (.int p1), .val (.int p2), .val (.int p3), .val (.int p4), .val (.ref av1), .val (.ref av3), .val (.ref av5), .val (.ref b6), .val (.ref b9), .val (.ref b12), .val (.int ((p4 &&& (2147483647 : Int32)) % (5 : Int32))), .val (.ref av1), .val (.ref av3)] [(.ref b12)])) _
    refine st66.trans ?_
    show Steps p.tables e below (T66.setTop (mkF m 198 #[.val (.int p1), .val (.int p2), .val (.int p3), .val (.int p4), .val (.ref av1), .val (.ref av3), .val (.ref av5), .val (.ref b6), .val (.ref b9), .val (.ref b12), .val (.int ((p4 &&& (2147483647 : Int32)) % (5 : Int32))), .val (.ref av1), .val (.ref av3)] [(.ref av3)])) _
    refine XS.aload X66.here hx rfl (hb hby at_198) rfl rfl ?_
    show Steps p.tables e below (T66.setTop (mkF m 200 #[.val (.int p1), .val (.int p2), .val (.int p3), .val (.int p4), .val (.ref av1), .val (.ref av3), .val (.ref av5), .val (.ref b6), .val (.ref b9), .val (.ref b12), .val (.int ((p4 &&& (2147483647 : Int32)) % (5 : Int32))), .val (.ref av1), .val (.ref av3)] [(.ref av3), (.ref av3)])) _
    refine Jvm.RoadKit.acmp (g := (mkF m 200 #[.val (.int p1), .val (.int p2), .val (.int p3), .val (.int p4), .val (.ref av1), .val (.ref av3), .val (.ref av5), .val (.ref b6), .val (.ref b9), .val (.ref b12), .val (.int ((p4 &&& (2147483647 : Int32)) % (5 : Int32))), .val (.ref av1), .val (.ref av3)] [(.ref av3), (.ref av3)])) X66 hx rfl rfl rfl (pc0 := 200) (pc' := 203) (same := true) rfl (hb hby at_200) rfl (decide_eq_true rfl) (by decide) (by decide) ?_
    show Steps p.tables e below (T66.setTop (mkF m 203 #[.val (.int p1), .val (.int p2), .val (.int p3), .val (.int p4), .val (.ref av1), .val (.ref av3), .val (.ref av5), .val (.ref b6), .val (.ref b9), .val (.ref b12), .val (.int ((p4 &&& (2147483647 : Int32)) % (5 : Int32))), .val (.ref av1), .val (.ref av3)] [])) _
    refine XS.iconst X66.here hx rfl (hb hby at_203) ?_
    show Steps p.tables e below (T66.setTop (mkF m 204 #[.val (.int p1), .val (.int p2), .val (.int p3), .val (.int p4), .val (.ref av1), .val (.ref av3), .val (.ref av5), .val (.ref b6), .val (.ref b9), .val (.ref b12), .val (.int ((p4 &&& (2147483647 : Int32)) % (5 : Int32))), .val (.ref av1), .val (.ref av3)] [(.int (1 : Int32))])) _
    refine XS.goto X66.here hx rfl (pc0 := 204) (pc' := 208) rfl (hb hby at_204) (by decide) (by decide) ?_
    show Steps p.tables e below (T66.setTop (mkF m 208 #[.val (.int p1), .val (.int p2), .val (.int p3), .val (.int p4), .val (.ref av1), .val (.ref av3), .val (.ref av5), .val (.ref b6), .val (.ref b9), .val (.ref b12), .val (.int ((p4 &&& (2147483647 : Int32)) % (5 : Int32))), .val (.ref av1), .val (.ref av3)] [(.int (1 : Int32))])) _
    exact retN X66 hx (t := .boolean) Bd.returns (by simp) (hb hby at_208) hr
  · show QF h0 n0 _ T66.heap _
    rw [e66]
    exact ⟨rfl, N66⟩
set_option maxRecDepth 65536 in
set_option maxHeartbeats 40000000 in
theorem rm0_4 (l : Launch) (Z : State) (a0 : Array Value) (hw : ∀ d ∈ tables_1, d.before a0 Z = true) (ws : List Jvm.Cond) (p1 : Int32) (p2 : Int32) (p3 : Int32) (p4 : Int32) (cb : Addr) (h0 : Heap) (n0 : Nat) (Z0 : n0 ≤ h0.size) (O0 : Old Z n0 h0) (SHZ : Sta Z Z.heap "java/lang/Integer$IntegerCache" "high" "I" (.int (127 : Int32))) (SCZ : Sta Z Z.heap "java/lang/Integer$IntegerCache" "cache" "[Ljava/lang/Integer;" (.ref cb)) (LC : ICache Z cb) (hc68 : ¬ (((p4 &&& (2147483647 : Int32)) % (5 : Int32)) = (1 : Int32))) (hc88 : ¬ (((p4 &&& (2147483647 : Int32)) % (5 : Int32)) = (2 : Int32))) (hc119 : ¬ (((p4 &&& (2147483647 : Int32)) % (5 : Int32)) = (3 : Int32))) (hc150 : ((p4 &&& (2147483647 : Int32)) % (5 : Int32)) = (4 : Int32)) :
    MetFree l x (head1 (Jvm.Cond.code x code maxLocals ret :: ws) room_1) (fun aa U => aa = #[(.int p1), (.int p2), (.int p3), (.int p4)] ∧ Z.Warmed39 U.vm ∧ U.heap = h0) (fun _ _ _ _ _ => True) (fun _ U o U' => ∃ v L, o = .returned v ∧ QF h0 n0 v U'.heap L ∧ FrameEnd U o U' L room_1.cells room_1.slots) := by
  refine MetFree.of_bodySF (plainFor_of_name pn_com_example_framelatch_framelatch_PlaceParentPinLaw) hisR ?_
  intro p e s m args below meth c s₁ Bd hml0 hP hK
  obtain ⟨rfl, hZ, hh⟩ := hP
  have hx := Bd.exec
  have hby := Bd.bytes
  have hml : c.maxLocals = 13 := hml0
  have hown : s.vm.findClass "com/example/framelatch/framelatch/PlaceParentPinLaw" = some m.cls := findClass_of_methodNamed Bd.named
  have hnm := (name_of_methodNamed Bd.named Bd.method).1
  have X0 : Stand p l e room_1 s m #[(.int p1), (.int p2), (.int p3), (.int p4)] below meth c s₁ [] 0 0 := Stand.of_body Bd
  have e0 : s₁.heap = h0 := by rw [← hh, Bd.state]; rfl
  have N0 := Fr.nil n0
  have pre0 : ∀ t, Steps p.tables e below (s₁.setTop (mkF m 0 #[.val (.int p1), .val (.int p2), .val (.int p3), .val (.int p4), .unset, .unset, .unset, .unset, .unset, .unset, .unset, .unset, .unset] [])) t → Steps p.tables e below (s₁.setTop (entryFrame m #[(.int p1), (.int p2), (.int p3), (.int p4)] maxLocals)) t := fun t k => castTop (ef_0 m p1 p2 p3 p4) k
  obtain ⟨_, _, ⟨T1, L1, k1, n1⟩, -, X1, ⟨Lc1, hQ1, l1, y1, z1⟩, st1⟩ := Jvm.LawKit.callS X0 hx (y := nm_1) hown (mvT hZ (ow hw 0 rfl)) (mvT hZ (ow hw 1 rfl)) (mvT hZ (ow hw 2 rfl)) (mvT hZ (ow hw 3 rfl)) (by decide) (backOf (W := 0) (rm1 l Z a0 hw [] p1 cb h0 n0 Z0 O0 SHZ SCZ LC) hZ (ow hw 3 rfl) (ow hw 2 rfl) (by decide) (by decide)) (g := (mkF m 1 #[.val (.int p1), .val (.int p2), .val (.int p3), .val (.int p4), .unset, .unset, .unset, .unset, .unset, .unset, .unset, .unset, .unset] [(.int p1)])) rfl (by rw [hml]; rfl) (argsL := [(.int p1)]) (rest := []) (lenOf pd_0 rfl) rfl (by show 2 * 0 + _ ≤ _; exact Nat.le_of_eq rfl) (hb hby at_1) (fun _ _ => ⟨rfl, e0, (by decide : 0 + 1 ≤ _), (by decide : 0 + 1 ≤ _)⟩)
  dsimp only [Pt.U, Pt.locs, Pt.cells, Pt.slots] at X1 l1 y1 z1 st1 hQ1
  subst l1 y1 z1
  obtain ⟨av1, rfl, N1q, Ev1⟩ := hQ1
  have N1 := Fr.app N0 N1q
  have c2 := O0.ext Ev1
  obtain ⟨_, _, ⟨T3, L3, k3, n3⟩, -, X3, ⟨Lc3, hQ3, l3, y3, z3⟩, st3⟩ := Jvm.LawKit.callS X1 hx (y := nm_1) hown (mvT hZ (ow hw 0 rfl)) (mvT hZ (ow hw 1 rfl)) (mvT hZ (ow hw 2 rfl)) (mvT hZ (ow hw 3 rfl)) (by decide) (backOf (W := 0) (rm1 l Z a0 hw [] p2 cb T1.heap n0 (Nat.le_trans Z0 Ev1.1) c2 SHZ SCZ LC) hZ (ow hw 3 rfl) (ow hw 2 rfl) (by decide) (by decide)) (g := (mkF m 7 #[.val (.int p1), .val (.int p2), .val (.int p3), .val (.int p4), .val (.ref av1), .unset, .unset, .unset, .unset, .unset, .unset, .unset, .unset] [(.int p2)])) rfl (by rw [hml]; rfl) (argsL := [(.int p2)]) (rest := []) (lenOf pd_0 rfl) rfl (by show 2 * 0 + _ ≤ _; exact Nat.le_of_eq rfl) (hb hby at_7) (fun _ _ => ⟨rfl, rfl, (by decide : 1 + 1 ≤ _), (by decide : 1 + 1 ≤ _)⟩)
  dsimp only [Pt.U, Pt.locs, Pt.cells, Pt.slots] at X3 l3 y3 z3 st3 hQ3
  subst l3 y3 z3
  obtain ⟨av3, rfl, N3q, Ev3⟩ := hQ3
  have N3 := Fr.app N1 N3q
  have c4 := c2.ext Ev3
  obtain ⟨_, _, ⟨T5, L5, k5, n5⟩, -, X5, ⟨Lc5, hQ5, l5, y5, z5⟩, st5⟩ := Jvm.LawKit.callS X3 hx (y := nm_1) hown (mvT hZ (ow hw 0 rfl)) (mvT hZ (ow hw 1 rfl)) (mvT hZ (ow hw 2 rfl)) (mvT hZ (ow hw 3 rfl)) (by decide) (backOf (W := 0) (rm1 l Z a0 hw [] p3 cb T3.heap n0 (Nat.le_trans (Nat.le_trans Z0 Ev1.1) Ev3.1) c4 SHZ SCZ LC) hZ (ow hw 3 rfl) (ow hw 2 rfl) (by decide) (by decide)) (g := (mkF m 13 #[.val (.int p1), .val (.int p2), .val (.int p3), .val (.int p4), .val (.ref av1), .val (.ref av3), .unset, .unset, .unset, .unset, .unset, .unset, .unset] [(.int p3)])) rfl (by rw [hml]; rfl) (argsL := [(.int p3)]) (rest := []) (lenOf pd_0 rfl) rfl (by show 2 * 0 + _ ≤ _; exact Nat.le_of_eq rfl) (hb hby at_13) (fun _ _ => ⟨rfl, rfl, (by decide : 2 + 1 ≤ _), (by decide : 2 + 1 ≤ _)⟩)
  dsimp only [Pt.U, Pt.locs, Pt.cells, Pt.slots] at X5 l5 y5 z5 st5 hQ5
  subst l5 y5 z5
  obtain ⟨av5, rfl, N5q, Ev5⟩ := hQ5
  have N5 := Fr.app N3 N5q
  obtain ⟨T6, h6, X6, e6, E6, A6, D6, -, st6⟩ := newO X5 hx hZ hown (ow hw 7 rfl) (ow hw 8 rfl) (ow hw 9 rfl) rfl (g := (mkF m 18 #[.val (.int p1), .val (.int p2), .val (.int p3), .val (.int p4), .val (.ref av1), .val (.ref av3), .val (.ref av5), .unset, .unset, .unset, .unset, .unset, .unset] [])) rfl (hb hby at_18) (by decide) (by decide)
  obtain ⟨b6, g_b6⟩ : ∃ z, z = T5.heap.size := ⟨_, rfl⟩
  rw [← g_b6] at A6 D6 st6
  have g0_b6 : n0 ≤ b6 := Nat.le_trans (Nat.le_trans (Nat.le_trans (Nat.le_trans Z0 Ev1.1) Ev3.1) Ev5.1) (Nat.le_of_eq g_b6.symm)
  have sz_b6 : h0.size ≤ b6 := Nat.le_trans (Nat.le_trans (Nat.le_trans (Nat.le_trans (Nat.le_refl _) Ev1.1) Ev3.1) Ev5.1) (Nat.le_of_eq g_b6.symm)
  have F_node_b6 : Fld Z h6 b6 "com/example/framelatch/framelatch/Tree$Place" "node" "Ljava/lang/Object;" .null := D6 (Or.inr (ow hw 17 rfl)) (ty := (.object "java/lang/Object")) (by decide)
  have F_top_b6 : Fld Z h6 b6 "com/example/framelatch/framelatch/Tree$Place" "top" "Ljava/lang/Object;" .null := D6 (Or.inl (ow hw 19 rfl)) (ty := (.object "java/lang/Object")) (by decide)
  have F_parent_b6 : Fld Z h6 b6 "com/example/framelatch/framelatch/Tree$Place" "parent" "Lcom/example/framelatch/framelatch/Tree$Place;" .null := D6 (Or.inl (ow hw 27 rfl)) (ty := (.object "com/example/framelatch/framelatch/Tree$Place")) (by decide)
  have F_link_b6 : Fld Z h6 b6 "com/example/framelatch/framelatch/Tree$Place" "link" "Lcom/example/framelatch/framelatch/Tree$Place;" .null := D6 (Or.inl (ow hw 33 rfl)) (ty := (.object "com/example/framelatch/framelatch/Tree$Place")) (by decide)
  have F_rank_b6 : Fld Z h6 b6 "com/example/framelatch/framelatch/Tree$Place" "rank" "I" (.int (0 : Int32)) := D6 (Or.inl (ow hw 35 rfl)) (ty := .int) (by decide)
  obtain ⟨_, _, ⟨T7, L7, k7, n7⟩, -, X7, ⟨Lc7, hQ7, l7, y7, z7⟩, st7⟩ := X6.specialBack hx (y := nm_2) rfl hown (mvT hZ (ow hw 10 rfl)) (mvT hZ (ow hw 11 rfl)) (mvT hZ (ow hw 12 rfl)) (by decide) (backOf (W := 1) (rm2 l Z a0 hw [] b6 av1 h6 n0 (Nat.le_trans (Nat.le_trans (Nat.le_trans (Nat.le_trans Z0 Ev1.1) Ev3.1) Ev5.1) E6.1) g0_b6 ⟨A6, F_node_b6, F_top_b6, F_parent_b6, F_link_b6, F_rank_b6⟩) hZ (ow hw 12 rfl) (ow hw 9 rfl) (by decide) (by decide)) (g := (mkF m 24 #[.val (.int p1), .val (.int p2), .val (.int p3), .val (.int p4), .val (.ref av1), .val (.ref av3), .val (.ref av5), .unset, .unset, .unset, .unset, .unset, .unset] [(.ref av1), (.ref b6), (.ref b6)])) rfl (by rw [hml]; rfl) (Steps.refl _) (a := b6) (argsL := [(.ref av1)]) (rest := [(.ref b6)]) (lenOf pd_1 rfl) rfl (by show 2 * 0 + _ ≤ _; exact Nat.le_of_eq rfl) (hb hby at_24) (fun _ _ => ⟨rfl, e6, (by decide : 4 + 0 ≤ _), (by decide : 8 + 0 ≤ _)⟩)
  dsimp only [Pt.U, Pt.locs, Pt.cells, Pt.slots] at X7 l7 y7 z7 st7 hQ7
  subst l7 y7 z7
  obtain ⟨rfl, N7q, K7, PB7⟩ := hQ7
  have N7 := Fr.app N5 N7q
  obtain ⟨Epl8, Fapl8, Fbpl8, Fcpl8, Fdpl8, Fepl8⟩ := PB7
  obtain ⟨T9, h9, X9, e9, E9, A9, D9, -, st9⟩ := newO X7 hx hZ hown (ow hw 7 rfl) (ow hw 8 rfl) (ow hw 9 rfl) rfl (g := (mkF m 29 #[.val (.int p1), .val (.int p2), .val (.int p3), .val (.int p4), .val (.ref av1), .val (.ref av3), .val (.ref av5), .val (.ref b6), .unset, .unset, .unset, .unset, .unset] [])) rfl (hb hby at_29) (by decide) (by decide)
  obtain ⟨b9, g_b9⟩ : ∃ z, z = T7.heap.size := ⟨_, rfl⟩
  rw [← g_b9] at A9 D9 st9
  have g0_b9 : n0 ≤ b9 := Nat.le_trans (Nat.le_trans (Nat.le_trans (Nat.le_trans (Nat.le_trans (Nat.le_trans Z0 Ev1.1) Ev3.1) Ev5.1) E6.1) K7.1) (Nat.le_of_eq g_b9.symm)
  have sz_b9 : h0.size ≤ b9 := Nat.le_trans (Nat.le_trans (Nat.le_trans (Nat.le_trans (Nat.le_trans (Nat.le_trans (Nat.le_refl _) Ev1.1) Ev3.1) Ev5.1) E6.1) K7.1) (Nat.le_of_eq g_b9.symm)
  have ne_b6_b9 : b6 ≠ b9 := Nat.ne_of_lt (Nat.lt_of_lt_of_le Epl8.lt (Nat.le_of_eq g_b9.symm))
  have F_node_b9 : Fld Z h9 b9 "com/example/framelatch/framelatch/Tree$Place" "node" "Ljava/lang/Object;" .null := D9 (Or.inr (ow hw 17 rfl)) (ty := (.object "java/lang/Object")) (by decide)
  have F_top_b9 : Fld Z h9 b9 "com/example/framelatch/framelatch/Tree$Place" "top" "Ljava/lang/Object;" .null := D9 (Or.inl (ow hw 19 rfl)) (ty := (.object "java/lang/Object")) (by decide)
  have F_parent_b9 : Fld Z h9 b9 "com/example/framelatch/framelatch/Tree$Place" "parent" "Lcom/example/framelatch/framelatch/Tree$Place;" .null := D9 (Or.inl (ow hw 27 rfl)) (ty := (.object "com/example/framelatch/framelatch/Tree$Place")) (by decide)
  have F_link_b9 : Fld Z h9 b9 "com/example/framelatch/framelatch/Tree$Place" "link" "Lcom/example/framelatch/framelatch/Tree$Place;" .null := D9 (Or.inl (ow hw 33 rfl)) (ty := (.object "com/example/framelatch/framelatch/Tree$Place")) (by decide)
  have F_rank_b9 : Fld Z h9 b9 "com/example/framelatch/framelatch/Tree$Place" "rank" "I" (.int (0 : Int32)) := D9 (Or.inl (ow hw 35 rfl)) (ty := .int) (by decide)
  obtain ⟨_, _, ⟨T10, L10, k10, n10⟩, -, X10, ⟨Lc10, hQ10, l10, y10, z10⟩, st10⟩ := X9.specialBack hx (y := nm_2) rfl hown (mvT hZ (ow hw 10 rfl)) (mvT hZ (ow hw 11 rfl)) (mvT hZ (ow hw 12 rfl)) (by decide) (backOf (W := 1) (rm2 l Z a0 hw [] b9 av3 h9 n0 (Nat.le_trans (Nat.le_trans (Nat.le_trans (Nat.le_trans (Nat.le_trans (Nat.le_trans Z0 Ev1.1) Ev3.1) Ev5.1) E6.1) K7.1) E9.1) g0_b9 ⟨A9, F_node_b9, F_top_b9, F_parent_b9, F_link_b9, F_rank_b9⟩) hZ (ow hw 12 rfl) (ow hw 9 rfl) (by decide) (by decide)) (g := (mkF m 35 #[.val (.int p1), .val (.int p2), .val (.int p3), .val (.int p4), .val (.ref av1), .val (.ref av3), .val (.ref av5), .val (.ref b6), .unset, .unset, .unset, .unset, .unset] [(.ref av3), (.ref b9), (.ref b9)])) rfl (by rw [hml]; rfl) (Steps.refl _) (a := b9) (argsL := [(.ref av3)]) (rest := [(.ref b9)]) (lenOf pd_1 rfl) rfl (by show 2 * 0 + _ ≤ _; exact Nat.le_of_eq rfl) (hb hby at_35) (fun _ _ => ⟨rfl, e9, (by decide : 5 + 0 ≤ _), (by decide : 13 + 0 ≤ _)⟩)
  dsimp only [Pt.U, Pt.locs, Pt.cells, Pt.slots] at X10 l10 y10 z10 st10 hQ10
  subst l10 y10 z10
  obtain ⟨rfl, N10q, K10, PB10⟩ := hQ10
  have N10 := Fr.app N7 N10q
  obtain ⟨Epl11, Fapl11, Fbpl11, Fcpl11, Fdpl11, Fepl11⟩ := PB10
  obtain ⟨T12, h12, X12, e12, E12, A12, D12, -, st12⟩ := newO X10 hx hZ hown (ow hw 7 rfl) (ow hw 8 rfl) (ow hw 9 rfl) rfl (g := (mkF m 40 #[.val (.int p1), .val (.int p2), .val (.int p3), .val (.int p4), .val (.ref av1), .val (.ref av3), .val (.ref av5), .val (.ref b6), .val (.ref b9), .unset, .unset, .unset, .unset] [])) rfl (hb hby at_40) (by decide) (by decide)
  obtain ⟨b12, g_b12⟩ : ∃ z, z = T10.heap.size := ⟨_, rfl⟩
  rw [← g_b12] at A12 D12 st12
  have g0_b12 : n0 ≤ b12 := Nat.le_trans (Nat.le_trans (Nat.le_trans (Nat.le_trans (Nat.le_trans (Nat.le_trans (Nat.le_trans (Nat.le_trans Z0 Ev1.1) Ev3.1) Ev5.1) E6.1) K7.1) E9.1) K10.1) (Nat.le_of_eq g_b12.symm)
  have sz_b12 : h0.size ≤ b12 := Nat.le_trans (Nat.le_trans (Nat.le_trans (Nat.le_trans (Nat.le_trans (Nat.le_trans (Nat.le_trans (Nat.le_trans (Nat.le_refl _) Ev1.1) Ev3.1) Ev5.1) E6.1) K7.1) E9.1) K10.1) (Nat.le_of_eq g_b12.symm)
  have c13 := Epl8.ext E9
  have c14 := c13.keep K10
  have ne_b6_b12 : b6 ≠ b12 := Nat.ne_of_lt (Nat.lt_of_lt_of_le c14.lt (Nat.le_of_eq g_b12.symm))
  have ne_b9_b12 : b9 ≠ b12 := Nat.ne_of_lt (Nat.lt_of_lt_of_le Epl11.lt (Nat.le_of_eq g_b12.symm))
  have F_node_b12 : Fld Z h12 b12 "com/example/framelatch/framelatch/Tree$Place" "node" "Ljava/lang/Object;" .null := D12 (Or.inr (ow hw 17 rfl)) (ty := (.object "java/lang/Object")) (by decide)
  have F_top_b12 : Fld Z h12 b12 "com/example/framelatch/framelatch/Tree$Place" "top" "Ljava/lang/Object;" .null := D12 (Or.inl (ow hw 19 rfl)) (ty := (.object "java/lang/Object")) (by decide)
  have F_parent_b12 : Fld Z h12 b12 "com/example/framelatch/framelatch/Tree$Place" "parent" "Lcom/example/framelatch/framelatch/Tree$Place;" .null := D12 (Or.inl (ow hw 27 rfl)) (ty := (.object "com/example/framelatch/framelatch/Tree$Place")) (by decide)
  have F_link_b12 : Fld Z h12 b12 "com/example/framelatch/framelatch/Tree$Place" "link" "Lcom/example/framelatch/framelatch/Tree$Place;" .null := D12 (Or.inl (ow hw 33 rfl)) (ty := (.object "com/example/framelatch/framelatch/Tree$Place")) (by decide)
  have F_rank_b12 : Fld Z h12 b12 "com/example/framelatch/framelatch/Tree$Place" "rank" "I" (.int (0 : Int32)) := D12 (Or.inl (ow hw 35 rfl)) (ty := .int) (by decide)
  obtain ⟨_, _, ⟨T15, L15, k15, n15⟩, -, X15, ⟨Lc15, hQ15, l15, y15, z15⟩, st15⟩ := X12.specialBack hx (y := nm_2) rfl hown (mvT hZ (ow hw 10 rfl)) (mvT hZ (ow hw 11 rfl)) (mvT hZ (ow hw 12 rfl)) (by decide) (backOf (W := 1) (rm2 l Z a0 hw [] b12 av5 h12 n0 (Nat.le_trans (Nat.le_trans (Nat.le_trans (Nat.le_trans (Nat.le_trans (Nat.le_trans (Nat.le_trans (Nat.le_trans Z0 Ev1.1) Ev3.1) Ev5.1) E6.1) K7.1) E9.1) K10.1) E12.1) g0_b12 ⟨A12, F_node_b12, F_top_b12, F_parent_b12, F_link_b12, F_rank_b12⟩) hZ (ow hw 12 rfl) (ow hw 9 rfl) (by decide) (by decide)) (g := (mkF m 46 #[.val (.int p1), .val (.int p2), .val (.int p3), .val (.int p4), .val (.ref av1), .val (.ref av3), .val (.ref av5), .val (.ref b6), .val (.ref b9), .unset, .unset, .unset, .unset] [(.ref av5), (.ref b12), (.ref b12)])) rfl (by rw [hml]; rfl) (Steps.refl _) (a := b12) (argsL := [(.ref av5)]) (rest := [(.ref b12)]) (lenOf pd_1 rfl) rfl (by show 2 * 0 + _ ≤ _; exact Nat.le_of_eq rfl) (hb hby at_46) (fun _ _ => ⟨rfl, e12, (by decide : 6 + 0 ≤ _), (by decide : 18 + 0 ≤ _)⟩)
  dsimp only [Pt.U, Pt.locs, Pt.cells, Pt.slots] at X15 l15 y15 z15 st15 hQ15
  subst l15 y15 z15
  obtain ⟨rfl, N15q, K15, PB15⟩ := hQ15
  have N15 := Fr.app N10 N15q
  obtain ⟨Epl16, Fapl16, Fbpl16, Fcpl16, Fdpl16, Fepl16⟩ := PB15
  have c17 := Epl11.ext E12
  have c18 := c17.keep K15
  have c19 := Fapl11.ext E12
  have c20 := c19.keep K15 (ninS ne_b9_b12 nin0)
  have c21 := Fbpl11.ext E12
  have c22 := c21.keep K15 (ninS ne_b9_b12 nin0)
  have c23 := Fcpl11.ext E12
  have c24 := c23.keep K15 (ninS ne_b9_b12 nin0)
  have c25 := Fdpl11.ext E12
  have c26 := c25.keep K15 (ninS ne_b9_b12 nin0)
  have c27 := Fepl11.ext E12
  have c28 := c27.keep K15 (ninS ne_b9_b12 nin0)
  have c29 := c14.ext E12
  have c30 := c29.keep K15
  have c31 := Fapl8.ext E9
  have c32 := c31.keep K10 (ninS ne_b6_b9 nin0)
  have c33 := c32.ext E12
  have c34 := c33.keep K15 (ninS ne_b6_b12 nin0)
  have c35 := Fbpl8.ext E9
  have c36 := c35.keep K10 (ninS ne_b6_b9 nin0)
  have c37 := c36.ext E12
  have c38 := c37.keep K15 (ninS ne_b6_b12 nin0)
  have c39 := Fcpl8.ext E9
  have c40 := c39.keep K10 (ninS ne_b6_b9 nin0)
  have c41 := c40.ext E12
  have c42 := c41.keep K15 (ninS ne_b6_b12 nin0)
  have c43 := Fdpl8.ext E9
  have c44 := c43.keep K10 (ninS ne_b6_b9 nin0)
  have c45 := c44.ext E12
  have c46 := c45.keep K15 (ninS ne_b6_b12 nin0)
  have c47 := Fepl8.ext E9
  have c48 := c47.keep K10 (ninS ne_b6_b9 nin0)
  have c49 := c48.ext E12
  have c50 := c49.keep K15 (ninS ne_b6_b12 nin0)
  obtain ⟨cq51, kq51, q51a, q51b, q51c⟩ := isOf hZ rfl c18
  obtain ⟨_, _, ⟨T51, L51, k51, n51⟩, -, X51, ⟨Lc51, hQ51, l51, y51, z51⟩, st51⟩ := X15.virtualBack hx (y := nm_4) (z := nm_4) hown (mvT hZ (ow hw 21 rfl)) (mvT hZ (ow hw 22 rfl)) (notFace_of_selects (args := #[]) (mvT hZ (ow hw 24 rfl))) (mvT hZ (ow hw 24 rfl)) (mvT hZ (ow hw 23 rfl)) (by decide) (backOf (W := 0) (rm4_A l Z a0 hw [] b9 b6 (.ref av3) (.ref av3) .null (0 : Int32) (.ref av1) av1 .null (0 : Int32) T15.heap n0 (Nat.le_trans (Nat.le_trans (Nat.le_trans (Nat.le_trans (Nat.le_trans (Nat.le_trans (Nat.le_trans (Nat.le_trans (Nat.le_trans Z0 Ev1.1) Ev3.1) Ev5.1) E6.1) K7.1) E9.1) K10.1) E12.1) K15.1) (Ne.symm ne_b6_b9) g0_b9 g0_b6 ⟨c18, c20, c22, c24, c26, c28⟩ ⟨c30, c34, c38, c42, c46, c50⟩ (by decide) (by decide)) hZ (ow hw 25 rfl) (ow hw 9 rfl) (by decide) (by decide)) q51a q51c (g := (mkF m 157 #[.val (.int p1), .val (.int p2), .val (.int p3), .val (.int p4), .val (.ref av1), .val (.ref av3), .val (.ref av5), .val (.ref b6), .val (.ref b9), .val (.ref b12), .val (.int ((p4 &&& (2147483647 : Int32)) % (5 : Int32))), .val .null, .val .null] [(.ref b6), (.ref b9)])) rfl (by rw [hml]; rfl) (Steps.refl _) (argsL := [(.ref b6)]) (rest := []) (lenOf pd_3 rfl) rfl (by show 2 * 0 + _ ≤ _; exact Nat.le_of_eq rfl) (hb hby at_157) (fun _ _ => ⟨rfl, rfl, (by decide : 6 + 0 ≤ _), (by decide : 18 + 0 ≤ _)⟩)
  dsimp only [Pt.U, Pt.locs, Pt.cells, Pt.slots] at X51 l51 y51 z51 st51 hQ51
  subst l51 y51 z51
  obtain ⟨rfl, N51q, K51, Pu51, Pw51⟩ := hQ51
  have N51 := Fr.app N15 N51q
  obtain ⟨Epl52, Fapl52, Fbpl52, Fcpl52, Fdpl52, Fepl52⟩ := Pu51
  obtain ⟨Epl53, Fapl53, Fbpl53, Fcpl53, Fdpl53, Fepl53⟩ := Pw51
  have c54 := Epl16.keep K51
  have c55 := Fapl16.keep K51 (ninS (Ne.symm ne_b9_b12) (ninS (Ne.symm ne_b6_b12) nin0))
  have c56 := Fbpl16.keep K51 (ninS (Ne.symm ne_b9_b12) (ninS (Ne.symm ne_b6_b12) nin0))
  have c57 := Fcpl16.keep K51 (ninS (Ne.symm ne_b9_b12) (ninS (Ne.symm ne_b6_b12) nin0))
  have c58 := Fdpl16.keep K51 (ninS (Ne.symm ne_b9_b12) (ninS (Ne.symm ne_b6_b12) nin0))
  have c59 := Fepl16.keep K51 (ninS (Ne.symm ne_b9_b12) (ninS (Ne.symm ne_b6_b12) nin0))
  obtain ⟨cq60, kq60, q60a, q60b, q60c⟩ := isOf hZ rfl c54
  obtain ⟨_, _, ⟨T60, L60, k60, n60⟩, -, X60, ⟨Lc60, hQ60, l60, y60, z60⟩, st60⟩ := X51.virtualBack hx (y := nm_4) (z := nm_4) hown (mvT hZ (ow hw 21 rfl)) (mvT hZ (ow hw 22 rfl)) (notFace_of_selects (args := #[]) (mvT hZ (ow hw 24 rfl))) (mvT hZ (ow hw 24 rfl)) (mvT hZ (ow hw 23 rfl)) (by decide) (backOf (W := 0) (rm4_D l Z a0 hw [] b12 b6 (.ref av5) (.ref av5) .null (0 : Int32) (.ref av1) av1 .null ((0 : Int32) + (1 : Int32)) T51.heap n0 (Nat.le_trans (Nat.le_trans (Nat.le_trans (Nat.le_trans (Nat.le_trans (Nat.le_trans (Nat.le_trans (Nat.le_trans (Nat.le_trans (Nat.le_trans Z0 Ev1.1) Ev3.1) Ev5.1) E6.1) K7.1) E9.1) K10.1) E12.1) K15.1) K51.1) (Ne.symm ne_b6_b12) g0_b12 ⟨c54, c55, c56, c57, c58, c59⟩ ⟨Epl53, Fapl53, Fbpl53, Fcpl53, Fdpl53, Fepl53⟩ (by decide) (by decide)) hZ (ow hw 25 rfl) (ow hw 9 rfl) (by decide) (by decide)) q60a q60c (g := (mkF m 164 #[.val (.int p1), .val (.int p2), .val (.int p3), .val (.int p4), .val (.ref av1), .val (.ref av3), .val (.ref av5), .val (.ref b6), .val (.ref b9), .val (.ref b12), .val (.int ((p4 &&& (2147483647 : Int32)) % (5 : Int32))), .val .null, .val .null] [(.ref b6), (.ref b12)])) rfl (by rw [hml]; rfl) (Steps.refl _) (argsL := [(.ref b6)]) (rest := []) (lenOf pd_3 rfl) rfl (by show 2 * 0 + _ ≤ _; exact Nat.le_of_eq rfl) (hb hby at_164) (fun _ _ => ⟨rfl, rfl, (by decide : 6 + 0 ≤ _), (by decide : 18 + 0 ≤ _)⟩)
  dsimp only [Pt.U, Pt.locs, Pt.cells, Pt.slots] at X60 l60 y60 z60 st60 hQ60
  subst l60 y60 z60
  obtain ⟨rfl, N60q, K60, Pu60⟩ := hQ60
  have N60 := Fr.app N51 N60q
  obtain ⟨Epl61, Fapl61, Fbpl61, Fcpl61, Fdpl61, Fepl61⟩ := Pu60
  have c62 := Fcpl53.keep K60 (ninS ne_b6_b12 nin0)
  have c64 := Epl53.keep K60
  obtain ⟨cq63, kq63, q63a, q63b, q63c⟩ := isOf hZ rfl c64
  obtain ⟨_, _, ⟨T63, L63, k63, n63⟩, -, X63, ⟨Lc63, hQ63, l63, y63, z63⟩, st63⟩ := X60.virtualBack hx (y := nm_6) (z := nm_6) hown (mvT hZ (ow hw 36 rfl)) (mvT hZ (ow hw 37 rfl)) (notFace_of_selects (args := #[]) (mvT hZ (ow hw 39 rfl))) (mvT hZ (ow hw 39 rfl)) (mvT hZ (ow hw 38 rfl)) (by decide) (backOf (W := 0) (rm6_N l Z a0 hw [] b6 T60.heap n0 (Nat.le_trans (Nat.le_trans (Nat.le_trans (Nat.le_trans (Nat.le_trans (Nat.le_trans (Nat.le_trans (Nat.le_trans (Nat.le_trans (Nat.le_trans (Nat.le_trans Z0 Ev1.1) Ev3.1) Ev5.1) E6.1) K7.1) E9.1) K10.1) E12.1) K15.1) K51.1) K60.1) c62) hZ (ow hw 40 rfl) (ow hw 9 rfl) (by decide) (by decide)) q63a q63c (g := (mkF m 177 #[.val (.int p1), .val (.int p2), .val (.int p3), .val (.int p4), .val (.ref av1), .val (.ref av3), .val (.ref av5), .val (.ref b6), .val (.ref b9), .val (.ref b12), .val (.int ((p4 &&& (2147483647 : Int32)) % (5 : Int32))), .val (.ref av1), .val (.ref av1)] [(.ref b6)])) rfl (by rw [hml]; rfl) (Steps.refl _) (argsL := []) (rest := []) (lenOf pd_5 rfl) rfl (by show 2 * 0 + _ ≤ _; exact Nat.le_of_eq rfl) (hb hby at_177) (fun _ _ => ⟨rfl, rfl, (by decide : 6 + 0 ≤ _), (by decide : 18 + 0 ≤ _)⟩)
  dsimp only [Pt.U, Pt.locs, Pt.cells, Pt.slots] at X63 l63 y63 z63 st63 hQ63
  subst l63 y63 z63
  obtain ⟨rfl, N63q, e63⟩ := hQ63
  have N63 := Fr.app N60 N63q
  have c65 := Fcpl52.keep K60 (ninS ne_b9_b12 nin0)
  have c66 := Fapl53.keep K60 (ninS ne_b6_b12 nin0)
  have c68 := Epl52.keep K60
  obtain ⟨cq67, kq67, q67a, q67b, q67c⟩ := isOf hZ e63 c68
  obtain ⟨_, _, ⟨T67, L67, k67, n67⟩, -, X67, ⟨Lc67, hQ67, l67, y67, z67⟩, st67⟩ := X63.virtualBack hx (y := nm_6) (z := nm_6) hown (mvT hZ (ow hw 36 rfl)) (mvT hZ (ow hw 37 rfl)) (notFace_of_selects (args := #[]) (mvT hZ (ow hw 39 rfl))) (mvT hZ (ow hw 39 rfl)) (mvT hZ (ow hw 38 rfl)) (by decide) (backOf (W := 0) (rm6_R l Z a0 hw [] b9 b6 av1 T60.heap n0 (Nat.le_trans (Nat.le_trans (Nat.le_trans (Nat.le_trans (Nat.le_trans (Nat.le_trans (Nat.le_trans (Nat.le_trans (Nat.le_trans (Nat.le_trans (Nat.le_trans Z0 Ev1.1) Ev3.1) Ev5.1) E6.1) K7.1) E9.1) K10.1) E12.1) K15.1) K51.1) K60.1) c65 c66) hZ (ow hw 40 rfl) (ow hw 9 rfl) (by decide) (by decide)) q67a q67c (g := (mkF m 185 #[.val (.int p1), .val (.int p2), .val (.int p3), .val (.int p4), .val (.ref av1), .val (.ref av3), .val (.ref av5), .val (.ref b6), .val (.ref b9), .val (.ref b12), .val (.int ((p4 &&& (2147483647 : Int32)) % (5 : Int32))), .val (.ref av1), .val (.ref av1)] [(.ref b9)])) rfl (by rw [hml]; rfl) (Steps.refl _) (argsL := []) (rest := []) (lenOf pd_5 rfl) rfl (by show 2 * 0 + _ ≤ _; exact Nat.le_of_eq rfl) (hb hby at_185) (fun _ _ => ⟨rfl, e63, (by decide : 6 + 0 ≤ _), (by decide : 18 + 0 ≤ _)⟩)
  dsimp only [Pt.U, Pt.locs, Pt.cells, Pt.slots] at X67 l67 y67 z67 st67 hQ67
  subst l67 y67 z67
  obtain ⟨rfl, N67q, e67⟩ := hQ67
  have N67 := Fr.app N63 N67q
  obtain ⟨cq69, kq69, q69a, q69b, q69c⟩ := isOf hZ e67 Epl61
  obtain ⟨_, _, ⟨T69, L69, k69, n69⟩, -, X69, ⟨Lc69, hQ69, l69, y69, z69⟩, st69⟩ := X67.virtualBack hx (y := nm_6) (z := nm_6) hown (mvT hZ (ow hw 36 rfl)) (mvT hZ (ow hw 37 rfl)) (notFace_of_selects (args := #[]) (mvT hZ (ow hw 39 rfl))) (mvT hZ (ow hw 39 rfl)) (mvT hZ (ow hw 38 rfl)) (by decide) (backOf (W := 0) (rm6_R l Z a0 hw [] b12 b6 av1 T60.heap n0 (Nat.le_trans (Nat.le_trans (Nat.le_trans (Nat.le_trans (Nat.le_trans (Nat.le_trans (Nat.le_trans (Nat.le_trans (Nat.le_trans (Nat.le_trans (Nat.le_trans Z0 Ev1.1) Ev3.1) Ev5.1) E6.1) K7.1) E9.1) K10.1) E12.1) K15.1) K51.1) K60.1) Fcpl61 c66) hZ (ow hw 40 rfl) (ow hw 9 rfl) (by decide) (by decide)) q69a q69c (g := (mkF m 195 #[.val (.int p1), .val (.int p2), .val (.int p3), .val (.int p4), .val (.ref av1), .val (.ref av3), .val (.ref av5), .val (.ref b6), .val (.ref b9), .val (.ref b12), .val (.int ((p4 &&& (2147483647 : Int32)) % (5 : Int32))), .val (.ref av1), .val (.ref av1)] [(.ref b12)])) rfl (by rw [hml]; rfl) (Steps.refl _) (argsL := []) (rest := []) (lenOf pd_5 rfl) rfl (by show 2 * 0 + _ ≤ _; exact Nat.le_of_eq rfl) (hb hby at_195) (fun _ _ => ⟨rfl, e67, (by decide : 6 + 0 ≤ _), (by decide : 18 + 0 ≤ _)⟩)
  dsimp only [Pt.U, Pt.locs, Pt.cells, Pt.slots] at X69 l69 y69 z69 st69 hQ69
  subst l69 y69 z69
  obtain ⟨rfl, N69q, e69⟩ := hQ69
  have N69 := Fr.app N67 N69q
  obtain ⟨fs, hr, hrun, hended, hW, hsame⟩ := X69.leave (v := some (.int (1 : Int32))) (fun h => by rw [Bd.returns] at h; cases h)
  refine ⟨_, _, pre0 _ ?_, hrun, hended, _, _, rfl, ?_, ⟨_, rfl⟩, hW, hsame.mono (by decide) (by decide)⟩
  · show Steps p.tables e below (s₁.setTop (mkF m 0 #[.val (.int p1), .val (.int p2), .val (.int p3), .val (.int p4), .unset, .unset, .unset, .unset, .unset, .unset, .unset, .unset, .unset] [])) _
    refine XS.iloadN X0.here hx rfl (hb hby at_0) rfl ?_
    show Steps p.tables e below (s₁.setTop (mkF m 1 #[.val (.int p1), .val (.int p2), .val (.int p3), .val (.int p4), .unset, .unset, .unset, .unset, .unset, .unset, .unset, .unset, .unset] [(.int p1)])) _
    refine st1 _ ?_
    show Steps p.tables e below (T1.setTop (mkF m 4 #[.val (.int p1), .val (.int p2), .val (.int p3), .val (.int p4), .unset, .unset, .unset, .unset, .unset, .unset, .unset, .unset, .unset] [(.ref av1)])) _
    refine XS.astore X1.here hx rfl (hb hby at_4) rfl rfl (l' := #[.val (.int p1), .val (.int p2), .val (.int p3), .val (.int p4), .val (.ref av1), .unset, .unset, .unset, .unset, .unset, .unset, .unset, .unset]) rfl ?_
    show Steps p.tables e below (T1.setTop (mkF m 6 #[.val (.int p1), .val (.int p2), .val (.int p3), .val (.int p4), .val (.ref av1), .unset, .unset, .unset, .unset, .unset, .unset, .unset, .unset] [])) _
    refine XS.iloadN X1.here hx rfl (hb hby at_6) rfl ?_
    show Steps p.tables e below (T1.setTop (mkF m 7 #[.val (.int p1), .val (.int p2), .val (.int p3), .val (.int p4), .val (.ref av1), .unset, .unset, .unset, .unset, .unset, .unset, .unset, .unset] [(.int p2)])) _
    refine st3 _ ?_
    show Steps p.tables e below (T3.setTop (mkF m 10 #[.val (.int p1), .val (.int p2), .val (.int p3), .val (.int p4), .val (.ref av1), .unset, .unset, .unset, .unset, .unset, .unset, .unset, .unset] [(.ref av3)])) _
    refine XS.astore X3.here hx rfl (hb hby at_10) rfl rfl (l' := #[.val (.int p1), .val (.int p2), .val (.int p3), .val (.int p4), .val (.ref av1), .val (.ref av3), .unset, .unset, .unset, .unset, .unset, .unset, .unset]) rfl ?_
    show Steps p.tables e below (T3.setTop (mkF m 12 #[.val (.int p1), .val (.int p2), .val (.int p3), .val (.int p4), .val (.ref av1), .val (.ref av3), .unset, .unset, .unset, .unset, .unset, .unset, .unset] [])) _
    refine XS.iloadN X3.here hx rfl (hb hby at_12) rfl ?_
    show Steps p.tables e below (T3.setTop (mkF m 13 #[.val (.int p1), .val (.int p2), .val (.int p3), .val (.int p4), .val (.ref av1), .val (.ref av3), .unset, .unset, .unset, .unset, .unset, .unset, .unset] [(.int p3)])) _
    refine st5 _ ?_
    show Steps p.tables e below (T5.setTop (mkF m 16 #[.val (.int p1), .val (.int p2), .val (.int p3), .val (.int p4), .val (.ref av1), .val (.ref av3), .unset, .unset, .unset, .unset, .unset, .unset, .unset] [(.ref av5)])) _
    refine XS.astore X5.here hx rfl (hb hby at_16) rfl rfl (l' := #[.val (.int p1), .val (.int p2), .val (.int p3), .val (.int p4), .val (.ref av1), .val (.ref av3), .val (.ref av5), .unset, .unset, .unset, .unset, .unset, .unset]) rfl ?_
    show Steps p.tables e below (T5.setTop (mkF m 18 #[.val (.int p1), .val (.int p2), .val (.int p3), .val (.int p4), .val (.ref av1), .val (.ref av3), .val (.ref av5), .unset, .unset, .unset, .unset, .unset, .unset] [])) _
    refine st6 _ ?_
    show Steps p.tables e below (T6.setTop (mkF m 21 #[.val (.int p1), .val (.int p2), .val (.int p3), .val (.int p4), .val (.ref av1), .val (.ref av3), .val (.ref av5), .unset, .unset, .unset, .unset, .unset, .unset] [(.ref b6)])) _
    refine XS.dup X6.here hx rfl (hb hby at_21) rfl rfl ?_
    show Steps p.tables e below (T6.setTop (mkF m 22 #[.val (.int p1), .val (.int p2), .val (.int p3), .val (.int p4), .val (.ref av1), .val (.ref av3), .val (.ref av5), .unset, .unset, .unset, .unset, .unset, .unset] [(.ref b6), (.ref b6)])) _
    refine XS.aload X6.here hx rfl (hb hby at_22) rfl rfl ?_
    show Steps p.tables e below (T6.setTop (mkF m 24 #[.val (.int p1), .val (.int p2), .val (.int p3), .val (.int p4), .val (.ref av1), .val (.ref av3), .val (.ref av5), .unset, .unset, .unset, .unset, .unset, .unset] [(.ref av1), (.ref b6), (.ref b6)])) _
    refine st7.trans ?_
    show Steps p.tables e below (T7.setTop (mkF m 27 #[.val (.int p1), .val (.int p2), .val (.int p3), .val (.int p4), .val (.ref av1), .val (.ref av3), .val (.ref av5), .unset, .unset, .unset, .unset, .unset, .unset] [(.ref b6)])) _
    refine XS.astore X7.here hx rfl (hb hby at_27) rfl rfl (l' := #[.val (.int p1), .val (.int p2), .val (.int p3), .val (.int p4), .val (.ref av1), .val (.ref av3), .val (.ref av5), .val (.ref b6), .unset, .unset, .unset, .unset, .unset]) rfl ?_
    show Steps p.tables e below (T7.setTop (mkF m 29 #[.val (.int p1), .val (.int p2), .val (.int p3), .val (.int p4), .val (.ref av1), .val (.ref av3), .val (.ref av5), .val (.ref b6), .unset, .unset, .unset, .unset, .unset] [])) _
    refine st9 _ ?_
    show Steps p.tables e below (T9.setTop (mkF m 32 #[.val (.int p1), .val (.int p2), .val (.int p3), .val (.int p4), .val (.ref av1), .val (.ref av3), .val (.ref av5), .val (.ref b6), .unset, .unset, .unset, .unset, .unset] [(.ref b9)])) _
    refine XS.dup X9.here hx rfl (hb hby at_32) rfl rfl ?_
    show Steps p.tables e below (T9.setTop (mkF m 33 #[.val (.int p1), .val (.int p2), .val (.int p3), .val (.int p4), .val (.ref av1), .val (.ref av3), .val (.ref av5), .val (.ref b6), .unset, .unset, .unset, .unset, .unset] [(.ref b9), (.ref b9)])) _
    refine XS.aload X9.here hx rfl (hb hby at_33) rfl rfl ?_
    show Steps p.tables e below (T9.setTop (mkF m 35 #[.val (.int p1), .val (.int p2), .val (.int p3), .val (.int p4), .val (.ref av1), .val (.ref av3), .val (.ref av5), .val (.ref b6), .unset, .unset, .unset, .unset, .unset] [(.ref av3), (.ref b9), (.ref b9)])) _
    refine st10.trans ?_
    show Steps p.tables e below (T10.setTop (mkF m 38 #[.val (.int p1), .val (.int p2), .val (.int p3), .val (.int p4), .val (.ref av1), .val (.ref av3), .val (.ref av5), .val (.ref b6), .unset, .unset, .unset, .unset, .unset] [(.ref b9)])) _
    refine XS.astore X10.here hx rfl (hb hby at_38) rfl rfl (l' := #[.val (.int p1), .val (.int p2), .val (.int p3), .val (.int p4), .val (.ref av1), .val (.ref av3), .val (.ref av5), .val (.ref b6), .val (.ref b9), .unset, .unset, .unset, .unset]) rfl ?_
    show Steps p.tables e below (T10.setTop (mkF m 40 #[.val (.int p1), .val (.int p2), .val (.int p3), .val (.int p4), .val (.ref av1), .val (.ref av3), .val (.ref av5), .val (.ref b6), .val (.ref b9), .unset, .unset, .unset, .unset] [])) _
    refine st12 _ ?_
    show Steps p.tables e below (T12.setTop (mkF m 43 #[.val (.int p1), .val (.int p2), .val (.int p3), .val (.int p4), .val (.ref av1), .val (.ref av3), .val (.ref av5), .val (.ref b6), .val (.ref b9), .unset, .unset, .unset, .unset] [(.ref b12)])) _
    refine XS.dup X12.here hx rfl (hb hby at_43) rfl rfl ?_
    show Steps p.tables e below (T12.setTop (mkF m 44 #[.val (.int p1), .val (.int p2), .val (.int p3), .val (.int p4), .val (.ref av1), .val (.ref av3), .val (.ref av5), .val (.ref b6), .val (.ref b9), .unset, .unset, .unset, .unset] [(.ref b12), (.ref b12)])) _
    refine XS.aload X12.here hx rfl (hb hby at_44) rfl rfl ?_
    show Steps p.tables e below (T12.setTop (mkF m 46 #[.val (.int p1), .val (.int p2), .val (.int p3), .val (.int p4), .val (.ref av1), .val (.ref av3), .val (.ref av5), .val (.ref b6), .val (.ref b9), .unset, .unset, .unset, .unset] [(.ref av5), (.ref b12), (.ref b12)])) _
    refine st15.trans ?_
    show Steps p.tables e below (T15.setTop (mkF m 49 #[.val (.int p1), .val (.int p2), .val (.int p3), .val (.int p4), .val (.ref av1), .val (.ref av3), .val (.ref av5), .val (.ref b6), .val (.ref b9), .unset, .unset, .unset, .unset] [(.ref b12)])) _
    refine XS.astore X15.here hx rfl (hb hby at_49) rfl rfl (l' := #[.val (.int p1), .val (.int p2), .val (.int p3), .val (.int p4), .val (.ref av1), .val (.ref av3), .val (.ref av5), .val (.ref b6), .val (.ref b9), .val (.ref b12), .unset, .unset, .unset]) rfl ?_
    show Steps p.tables e below (T15.setTop (mkF m 51 #[.val (.int p1), .val (.int p2), .val (.int p3), .val (.int p4), .val (.ref av1), .val (.ref av3), .val (.ref av5), .val (.ref b6), .val (.ref b9), .val (.ref b12), .unset, .unset, .unset] [])) _
    refine XS.iloadN X15.here hx rfl (hb hby at_51) rfl ?_
    show Steps p.tables e below (T15.setTop (mkF m 52 #[.val (.int p1), .val (.int p2), .val (.int p3), .val (.int p4), .val (.ref av1), .val (.ref av3), .val (.ref av5), .val (.ref b6), .val (.ref b9), .val (.ref b12), .unset, .unset, .unset] [(.int p4)])) _
    refine X15.ldcInt hx hown (mvT hZ (ow hw 20 rfl)) (g := (mkF m 52 #[.val (.int p1), .val (.int p2), .val (.int p3), .val (.int p4), .val (.ref av1), .val (.ref av3), .val (.ref av5), .val (.ref b6), .val (.ref b9), .val (.ref b12), .unset, .unset, .unset] [(.int p4)])) rfl (hb hby at_52) _ ?_
    show Steps p.tables e below (T15.setTop (mkF m 54 #[.val (.int p1), .val (.int p2), .val (.int p3), .val (.int p4), .val (.ref av1), .val (.ref av3), .val (.ref av5), .val (.ref b6), .val (.ref b9), .val (.ref b12), .unset, .unset, .unset] [(.int (2147483647 : Int32)), (.int p4)])) _
    refine XS.iand X15.here hx rfl (hb hby at_54) rfl ?_
    show Steps p.tables e below (T15.setTop (mkF m 55 #[.val (.int p1), .val (.int p2), .val (.int p3), .val (.int p4), .val (.ref av1), .val (.ref av3), .val (.ref av5), .val (.ref b6), .val (.ref b9), .val (.ref b12), .unset, .unset, .unset] [(.int (p4 &&& (2147483647 : Int32)))])) _
    refine XS.iconst X15.here hx rfl (hb hby at_55) ?_
    show Steps p.tables e below (T15.setTop (mkF m 56 #[.val (.int p1), .val (.int p2), .val (.int p3), .val (.int p4), .val (.ref av1), .val (.ref av3), .val (.ref av5), .val (.ref b6), .val (.ref b9), .val (.ref b12), .unset, .unset, .unset] [(.int (5 : Int32)), (.int (p4 &&& (2147483647 : Int32)))])) _
    refine iremM X15 hx (g := (mkF m 56 #[.val (.int p1), .val (.int p2), .val (.int p3), .val (.int p4), .val (.ref av1), .val (.ref av3), .val (.ref av5), .val (.ref b6), .val (.ref b9), .val (.ref b12), .unset, .unset, .unset] [(.int (5 : Int32)), (.int (p4 &&& (2147483647 : Int32)))])) rfl (hb hby at_56) rfl (by decide) ?_
    show Steps p.tables e below (T15.setTop (mkF m 57 #[.val (.int p1), .val (.int p2), .val (.int p3), .val (.int p4), .val (.ref av1), .val (.ref av3), .val (.ref av5), .val (.ref b6), .val (.ref b9), .val (.ref b12), .unset, .unset, .unset] [(.int ((p4 &&& (2147483647 : Int32)) % (5 : Int32)))])) _
    refine XS.istore X15.here hx rfl (hb hby at_57) rfl (l' := #[.val (.int p1), .val (.int p2), .val (.int p3), .val (.int p4), .val (.ref av1), .val (.ref av3), .val (.ref av5), .val (.ref b6), .val (.ref b9), .val (.ref b12), .val (.int ((p4 &&& (2147483647 : Int32)) % (5 : Int32))), .unset, .unset]) rfl ?_
    show Steps p.tables e below (T15.setTop (mkF m 59 #[.val (.int p1), .val (.int p2), .val (.int p3), .val (.int p4), .val (.ref av1), .val (.ref av3), .val (.ref av5), .val (.ref b6), .val (.ref b9), .val (.ref b12), .val (.int ((p4 &&& (2147483647 : Int32)) % (5 : Int32))), .unset, .unset] [])) _
    refine XS.aconstNull X15.here hx rfl (hb hby at_59) ?_
    show Steps p.tables e below (T15.setTop (mkF m 60 #[.val (.int p1), .val (.int p2), .val (.int p3), .val (.int p4), .val (.ref av1), .val (.ref av3), .val (.ref av5), .val (.ref b6), .val (.ref b9), .val (.ref b12), .val (.int ((p4 &&& (2147483647 : Int32)) % (5 : Int32))), .unset, .unset] [.null])) _
    refine XS.astore X15.here hx rfl (hb hby at_60) rfl rfl (l' := #[.val (.int p1), .val (.int p2), .val (.int p3), .val (.int p4), .val (.ref av1), .val (.ref av3), .val (.ref av5), .val (.ref b6), .val (.ref b9), .val (.ref b12), .val (.int ((p4 &&& (2147483647 : Int32)) % (5 : Int32))), .val .null, .unset]) rfl ?_
    show Steps p.tables e below (T15.setTop (mkF m 62 #[.val (.int p1), .val (.int p2), .val (.int p3), .val (.int p4), .val (.ref av1), .val (.ref av3), .val (.ref av5), .val (.ref b6), .val (.ref b9), .val (.ref b12), .val (.int ((p4 &&& (2147483647 : Int32)) % (5 : Int32))), .val .null, .unset] [])) _
    refine XS.aconstNull X15.here hx rfl (hb hby at_62) ?_
    show Steps p.tables e below (T15.setTop (mkF m 63 #[.val (.int p1), .val (.int p2), .val (.int p3), .val (.int p4), .val (.ref av1), .val (.ref av3), .val (.ref av5), .val (.ref b6), .val (.ref b9), .val (.ref b12), .val (.int ((p4 &&& (2147483647 : Int32)) % (5 : Int32))), .val .null, .unset] [.null])) _
    refine XS.astore X15.here hx rfl (hb hby at_63) rfl rfl (l' := #[.val (.int p1), .val (.int p2), .val (.int p3), .val (.int p4), .val (.ref av1), .val (.ref av3), .val (.ref av5), .val (.ref b6), .val (.ref b9), .val (.ref b12), .val (.int ((p4 &&& (2147483647 : Int32)) % (5 : Int32))), .val .null, .val .null]) rfl ?_
    show Steps p.tables e below (T15.setTop (mkF m 65 #[.val (.int p1), .val (.int p2), .val (.int p3), .val (.int p4), .val (.ref av1), .val (.ref av3), .val (.ref av5), .val (.ref b6), .val (.ref b9), .val (.ref b12), .val (.int ((p4 &&& (2147483647 : Int32)) % (5 : Int32))), .val .null, .val .null] [])) _
    refine XS.iload X15.here hx rfl (hb hby at_65) rfl ?_
    show Steps p.tables e below (T15.setTop (mkF m 67 #[.val (.int p1), .val (.int p2), .val (.int p3), .val (.int p4), .val (.ref av1), .val (.ref av3), .val (.ref av5), .val (.ref b6), .val (.ref b9), .val (.ref b12), .val (.int ((p4 &&& (2147483647 : Int32)) % (5 : Int32))), .val .null, .val .null] [(.int ((p4 &&& (2147483647 : Int32)) % (5 : Int32)))])) _
    refine XS.iconst X15.here hx rfl (hb hby at_67) ?_
    show Steps p.tables e below (T15.setTop (mkF m 68 #[.val (.int p1), .val (.int p2), .val (.int p3), .val (.int p4), .val (.ref av1), .val (.ref av3), .val (.ref av5), .val (.ref b6), .val (.ref b9), .val (.ref b12), .val (.int ((p4 &&& (2147483647 : Int32)) % (5 : Int32))), .val .null, .val .null] [(.int (1 : Int32)), (.int ((p4 &&& (2147483647 : Int32)) % (5 : Int32)))])) _
    refine XS.icmpYes X15.here hx rfl (pc0 := 68) (pc' := 85) rfl (hb hby at_68) rfl (feq hc68).2 (by decide) (by decide) ?_
    show Steps p.tables e below (T15.setTop (mkF m 85 #[.val (.int p1), .val (.int p2), .val (.int p3), .val (.int p4), .val (.ref av1), .val (.ref av3), .val (.ref av5), .val (.ref b6), .val (.ref b9), .val (.ref b12), .val (.int ((p4 &&& (2147483647 : Int32)) % (5 : Int32))), .val .null, .val .null] [])) _
    refine XS.iload X15.here hx rfl (hb hby at_85) rfl ?_
    show Steps p.tables e below (T15.setTop (mkF m 87 #[.val (.int p1), .val (.int p2), .val (.int p3), .val (.int p4), .val (.ref av1), .val (.ref av3), .val (.ref av5), .val (.ref b6), .val (.ref b9), .val (.ref b12), .val (.int ((p4 &&& (2147483647 : Int32)) % (5 : Int32))), .val .null, .val .null] [(.int ((p4 &&& (2147483647 : Int32)) % (5 : Int32)))])) _
    refine XS.iconst X15.here hx rfl (hb hby at_87) ?_
    show Steps p.tables e below (T15.setTop (mkF m 88 #[.val (.int p1), .val (.int p2), .val (.int p3), .val (.int p4), .val (.ref av1), .val (.ref av3), .val (.ref av5), .val (.ref b6), .val (.ref b9), .val (.ref b12), .val (.int ((p4 &&& (2147483647 : Int32)) % (5 : Int32))), .val .null, .val .null] [(.int (2 : Int32)), (.int ((p4 &&& (2147483647 : Int32)) % (5 : Int32)))])) _
    refine XS.icmpYes X15.here hx rfl (pc0 := 88) (pc' := 116) rfl (hb hby at_88) rfl (feq hc88).2 (by decide) (by decide) ?_
    show Steps p.tables e below (T15.setTop (mkF m 116 #[.val (.int p1), .val (.int p2), .val (.int p3), .val (.int p4), .val (.ref av1), .val (.ref av3), .val (.ref av5), .val (.ref b6), .val (.ref b9), .val (.ref b12), .val (.int ((p4 &&& (2147483647 : Int32)) % (5 : Int32))), .val .null, .val .null] [])) _
    refine XS.iload X15.here hx rfl (hb hby at_116) rfl ?_
    show Steps p.tables e below (T15.setTop (mkF m 118 #[.val (.int p1), .val (.int p2), .val (.int p3), .val (.int p4), .val (.ref av1), .val (.ref av3), .val (.ref av5), .val (.ref b6), .val (.ref b9), .val (.ref b12), .val (.int ((p4 &&& (2147483647 : Int32)) % (5 : Int32))), .val .null, .val .null] [(.int ((p4 &&& (2147483647 : Int32)) % (5 : Int32)))])) _
    refine XS.iconst X15.here hx rfl (hb hby at_118) ?_
    show Steps p.tables e below (T15.setTop (mkF m 119 #[.val (.int p1), .val (.int p2), .val (.int p3), .val (.int p4), .val (.ref av1), .val (.ref av3), .val (.ref av5), .val (.ref b6), .val (.ref b9), .val (.ref b12), .val (.int ((p4 &&& (2147483647 : Int32)) % (5 : Int32))), .val .null, .val .null] [(.int (3 : Int32)), (.int ((p4 &&& (2147483647 : Int32)) % (5 : Int32)))])) _
    refine XS.icmpYes X15.here hx rfl (pc0 := 119) (pc' := 147) rfl (hb hby at_119) rfl (feq hc119).2 (by decide) (by decide) ?_
    show Steps p.tables e below (T15.setTop (mkF m 147 #[.val (.int p1), .val (.int p2), .val (.int p3), .val (.int p4), .val (.ref av1), .val (.ref av3), .val (.ref av5), .val (.ref b6), .val (.ref b9), .val (.ref b12), .val (.int ((p4 &&& (2147483647 : Int32)) % (5 : Int32))), .val .null, .val .null] [])) _
    refine XS.iload X15.here hx rfl (hb hby at_147) rfl ?_
    show Steps p.tables e below (T15.setTop (mkF m 149 #[.val (.int p1), .val (.int p2), .val (.int p3), .val (.int p4), .val (.ref av1), .val (.ref av3), .val (.ref av5), .val (.ref b6), .val (.ref b9), .val (.ref b12), .val (.int ((p4 &&& (2147483647 : Int32)) % (5 : Int32))), .val .null, .val .null] [(.int ((p4 &&& (2147483647 : Int32)) % (5 : Int32)))])) _
    refine XS.iconst X15.here hx rfl (hb hby at_149) ?_
    show Steps p.tables e below (T15.setTop (mkF m 150 #[.val (.int p1), .val (.int p2), .val (.int p3), .val (.int p4), .val (.ref av1), .val (.ref av3), .val (.ref av5), .val (.ref b6), .val (.ref b9), .val (.ref b12), .val (.int ((p4 &&& (2147483647 : Int32)) % (5 : Int32))), .val .null, .val .null] [(.int (4 : Int32)), (.int ((p4 &&& (2147483647 : Int32)) % (5 : Int32)))])) _
    refine XS.icmpNo X15.here hx rfl (hb hby at_150) rfl (teq hc150).2 ?_
    show Steps p.tables e below (T15.setTop (mkF m 153 #[.val (.int p1), .val (.int p2), .val (.int p3), .val (.int p4), .val (.ref av1), .val (.ref av3), .val (.ref av5), .val (.ref b6), .val (.ref b9), .val (.ref b12), .val (.int ((p4 &&& (2147483647 : Int32)) % (5 : Int32))), .val .null, .val .null] [])) _
    refine XS.aload X15.here hx rfl (hb hby at_153) rfl rfl ?_
    show Steps p.tables e below (T15.setTop (mkF m 155 #[.val (.int p1), .val (.int p2), .val (.int p3), .val (.int p4), .val (.ref av1), .val (.ref av3), .val (.ref av5), .val (.ref b6), .val (.ref b9), .val (.ref b12), .val (.int ((p4 &&& (2147483647 : Int32)) % (5 : Int32))), .val .null, .val .null] [(.ref b9)])) _
    refine XS.aload X15.here hx rfl (hb hby at_155) rfl rfl ?_
    show Steps p.tables e below (T15.setTop (mkF m 157 #[.val (.int p1), .val (.int p2), .val (.int p3), .val (.int p4), .val (.ref av1), .val (.ref av3), .val (.ref av5), .val (.ref b6), .val (.ref b9), .val (.ref b12), .val (.int ((p4 &&& (2147483647 : Int32)) % (5 : Int32))), .val .null, .val .null] [(.ref b6), (.ref b9)])) _
    refine st51.trans ?_
    show Steps p.tables e below (T51.setTop (mkF m 160 #[.val (.int p1), .val (.int p2), .val (.int p3), .val (.int p4), .val (.ref av1), .val (.ref av3), .val (.ref av5), .val (.ref b6), .val (.ref b9), .val (.ref b12), .val (.int ((p4 &&& (2147483647 : Int32)) % (5 : Int32))), .val .null, .val .null] [])) _
    refine XS.aload X51.here hx rfl (hb hby at_160) rfl rfl ?_
    show Steps p.tables e below (T51.setTop (mkF m 162 #[.val (.int p1), .val (.int p2), .val (.int p3), .val (.int p4), .val (.ref av1), .val (.ref av3), .val (.ref av5), .val (.ref b6), .val (.ref b9), .val (.ref b12), .val (.int ((p4 &&& (2147483647 : Int32)) % (5 : Int32))), .val .null, .val .null] [(.ref b12)])) _
    refine XS.aload X51.here hx rfl (hb hby at_162) rfl rfl ?_
    show Steps p.tables e below (T51.setTop (mkF m 164 #[.val (.int p1), .val (.int p2), .val (.int p3), .val (.int p4), .val (.ref av1), .val (.ref av3), .val (.ref av5), .val (.ref b6), .val (.ref b9), .val (.ref b12), .val (.int ((p4 &&& (2147483647 : Int32)) % (5 : Int32))), .val .null, .val .null] [(.ref b6), (.ref b12)])) _
    refine st60.trans ?_
    show Steps p.tables e below (T60.setTop (mkF m 167 #[.val (.int p1), .val (.int p2), .val (.int p3), .val (.int p4), .val (.ref av1), .val (.ref av3), .val (.ref av5), .val (.ref b6), .val (.ref b9), .val (.ref b12), .val (.int ((p4 &&& (2147483647 : Int32)) % (5 : Int32))), .val .null, .val .null] [])) _
    refine XS.aload X60.here hx rfl (hb hby at_167) rfl rfl ?_
    show Steps p.tables e below (T60.setTop (mkF m 169 #[.val (.int p1), .val (.int p2), .val (.int p3), .val (.int p4), .val (.ref av1), .val (.ref av3), .val (.ref av5), .val (.ref b6), .val (.ref b9), .val (.ref b12), .val (.int ((p4 &&& (2147483647 : Int32)) % (5 : Int32))), .val .null, .val .null] [(.ref av1)])) _
    refine XS.astore X60.here hx rfl (hb hby at_169) rfl rfl (l' := #[.val (.int p1), .val (.int p2), .val (.int p3), .val (.int p4), .val (.ref av1), .val (.ref av3), .val (.ref av5), .val (.ref b6), .val (.ref b9), .val (.ref b12), .val (.int ((p4 &&& (2147483647 : Int32)) % (5 : Int32))), .val (.ref av1), .val .null]) rfl ?_
    show Steps p.tables e below (T60.setTop (mkF m 171 #[.val (.int p1), .val (.int p2), .val (.int p3), .val (.int p4), .val (.ref av1), .val (.ref av3), .val (.ref av5), .val (.ref b6), .val (.ref b9), .val (.ref b12), .val (.int ((p4 &&& (2147483647 : Int32)) % (5 : Int32))), .val (.ref av1), .val .null] [])) _
    refine XS.aload X60.here hx rfl (hb hby at_171) rfl rfl ?_
    show Steps p.tables e below (T60.setTop (mkF m 173 #[.val (.int p1), .val (.int p2), .val (.int p3), .val (.int p4), .val (.ref av1), .val (.ref av3), .val (.ref av5), .val (.ref b6), .val (.ref b9), .val (.ref b12), .val (.int ((p4 &&& (2147483647 : Int32)) % (5 : Int32))), .val (.ref av1), .val .null] [(.ref av1)])) _
    refine XS.astore X60.here hx rfl (hb hby at_173) rfl rfl (l' := #[.val (.int p1), .val (.int p2), .val (.int p3), .val (.int p4), .val (.ref av1), .val (.ref av3), .val (.ref av5), .val (.ref b6), .val (.ref b9), .val (.ref b12), .val (.int ((p4 &&& (2147483647 : Int32)) % (5 : Int32))), .val (.ref av1), .val (.ref av1)]) rfl ?_
    show Steps p.tables e below (T60.setTop (mkF m 175 #[.val (.int p1), .val (.int p2), .val (.int p3), .val (.int p4), .val (.ref av1), .val (.ref av3), .val (.ref av5), .val (.ref b6), .val (.ref b9), .val (.ref b12), .val (.int ((p4 &&& (2147483647 : Int32)) % (5 : Int32))), .val (.ref av1), .val (.ref av1)] [])) _
    refine XS.aload X60.here hx rfl (hb hby at_175) rfl rfl ?_
    show Steps p.tables e below (T60.setTop (mkF m 177 #[.val (.int p1), .val (.int p2), .val (.int p3), .val (.int p4), .val (.ref av1), .val (.ref av3), .val (.ref av5), .val (.ref b6), .val (.ref b9), .val (.ref b12), .val (.int ((p4 &&& (2147483647 : Int32)) % (5 : Int32))), .val (.ref av1), .val (.ref av1)] [(.ref b6)])) _
    refine st63.trans ?_
    show Steps p.tables e below (T63.setTop (mkF m 180 #[.val (.int p1), .val (.int p2), .val (.int p3), .val (.int p4), .val (.ref av1), .val (.ref av3), .val (.ref av5), .val (.ref b6), .val (.ref b9), .val (.ref b12), .val (.int ((p4 &&& (2147483647 : Int32)) % (5 : Int32))), .val (.ref av1), .val (.ref av1)] [.null])) _
    refine XS.ifnonnullNo X63.here hx rfl (hb hby at_180) rfl ?_
    show Steps p.tables e below (T63.setTop (mkF m 183 #[.val (.int p1), .val (.int p2), .val (.int p3), .val (.int p4), .val (.ref av1), .val (.ref av3), .val (.ref av5), .val (.ref b6), .val (.ref b9), .val (.ref b12), .val (.int ((p4 &&& (2147483647 : Int32)) % (5 : Int32))), .val (.ref av1), .val (.ref av1)] [])) _
    refine XS.aload X63.here hx rfl (hb hby at_183) rfl rfl ?_
    show Steps p.tables e below (T63.setTop (mkF m 185 #[.val (.int p1), .val (.int p2), .val (.int p3), .val (.int p4), .val (.ref av1), .val (.ref av3), .val (.ref av5), .val (.ref b6), .val (.ref b9), .val (.ref b12), .val (.int ((p4 &&& (2147483647 : Int32)) % (5 : Int32))), .val (.ref av1), .val (.ref av1)] [(.ref b9)])) _
    refine st67.trans ?_
    show Steps p.tables e below (T67.setTop (mkF m 188 #[.val (.int p1), .val (.int p2), .val (.int p3), .val (.int p4), .val (.ref av1), .val (.ref av3), .val (.ref av5), .val (.ref b6), .val (.ref b9), .val (.ref b12), .val (.int ((p4 &&& (2147483647 : Int32)) % (5 : Int32))), .val (.ref av1), .val (.ref av1)] [(.ref av1)])) _
    refine XS.aload X67.here hx rfl (hb hby at_188) rfl rfl ?_
    show Steps p.tables e below (T67.setTop (mkF m 190 #[.val (.int p1), .val (.int p2), .val (.int p3), .val (.int p4), .val (.ref av1), .val (.ref av3), .val (.ref av5), .val (.ref b6), .val (.ref b9), .val (.ref b12), .val (.int ((p4 &&& (2147483647 : Int32)) % (5 : Int32))), .val (.ref av1), .val (.ref av1)] [(.ref av1), (.ref av1)])) _
    refine Jvm.RoadKit.acmp (g := (mkF m 190 #[.val (.int p1), .val (.int p2), .val (.int p3), .val (.int p4), .val (.ref av1), .val (.ref av3), .val (.ref av5), .val (.ref b6), .val (.ref b9), .val (.ref b12), .val (.int ((p4 &&& (2147483647 : Int32)) % (5 : Int32))), .val (.ref av1), .val (.ref av1)] [(.ref av1), (.ref av1)])) X67 hx rfl rfl rfl (pc0 := 190) (pc' := 193) (same := true) rfl (hb hby at_190) rfl (decide_eq_true rfl) (by decide) (by decide) ?_
    show Steps p.tables e below (T67.setTop (mkF m 193 #[.val (.int p1), .val (.int p2), .val (.int p3), .val (.int p4), .val (.ref av1), .val (.ref av3), .val (.ref av5), .val (.ref b6), .val (.ref b9), .val (.ref b12), .val (.int ((p4 &&& (2147483647 : Int32)) % (5 : Int32))), .val (.ref av1), .val (.ref av1)] [])) _
    refine XS.aload X67.here hx rfl (hb hby at_193) rfl rfl ?_
    show Steps p.tables e below (T67.setTop (mkF m 195 #[.val (.int p1), .val (.int p2), .val (.int p3), .val (.int p4), .val (.ref av1), .val (.ref av3), .val (.ref av5), .val (.ref b6), .val (.ref b9), .val (.ref b12), .val (.int ((p4 &&& (2147483647 : Int32)) % (5 : Int32))), .val (.ref av1), .val (.ref av1)] [(.ref b12)])) _
    refine st69.trans ?_
    show Steps p.tables e below (T69.setTop (mkF m 198 #[.val (.int p1), .val (.int p2), .val (.int p3), .val (.int p4), .val (.ref av1), .val (.ref av3), .val (.ref av5), .val (.ref b6), .val (.ref b9), .val (.ref b12), .val (.int ((p4 &&& (2147483647 : Int32)) % (5 : Int32))), .val (.ref av1), .val (.ref av1)] [(.ref av1)])) _
    refine XS.aload X69.here hx rfl (hb hby at_198) rfl rfl ?_
    show Steps p.tables e below (T69.setTop (mkF m 200 #[.val (.int p1), .val (.int p2), .val (.int p3), .val (.int p4), .val (.ref av1), .val (.ref av3), .val (.ref av5), .val (.ref b6), .val (.ref b9), .val (.ref b12), .val (.int ((p4 &&& (2147483647 : Int32)) % (5 : Int32))), .val (.ref av1), .val (.ref av1)] [(.ref av1), (.ref av1)])) _
    refine Jvm.RoadKit.acmp (g := (mkF m 200 #[.val (.int p1), .val (.int p2), .val (.int p3), .val (.int p4), .val (.ref av1), .val (.ref av3), .val (.ref av5), .val (.ref b6), .val (.ref b9), .val (.ref b12), .val (.int ((p4 &&& (2147483647 : Int32)) % (5 : Int32))), .val (.ref av1), .val (.ref av1)] [(.ref av1), (.ref av1)])) X69 hx rfl rfl rfl (pc0 := 200) (pc' := 203) (same := true) rfl (hb hby at_200) rfl (decide_eq_true rfl) (by decide) (by decide) ?_
    show Steps p.tables e below (T69.setTop (mkF m 203 #[.val (.int p1), .val (.int p2), .val (.int p3), .val (.int p4), .val (.ref av1), .val (.ref av3), .val (.ref av5), .val (.ref b6), .val (.ref b9), .val (.ref b12), .val (.int ((p4 &&& (2147483647 : Int32)) % (5 : Int32))), .val (.ref av1), .val (.ref av1)] [])) _
    refine XS.iconst X69.here hx rfl (hb hby at_203) ?_
    show Steps p.tables e below (T69.setTop (mkF m 204 #[.val (.int p1), .val (.int p2), .val (.int p3), .val (.int p4), .val (.ref av1), .val (.ref av3), .val (.ref av5), .val (.ref b6), .val (.ref b9), .val (.ref b12), .val (.int ((p4 &&& (2147483647 : Int32)) % (5 : Int32))), .val (.ref av1), .val (.ref av1)] [(.int (1 : Int32))])) _
    refine XS.goto X69.here hx rfl (pc0 := 204) (pc' := 208) rfl (hb hby at_204) (by decide) (by decide) ?_
    show Steps p.tables e below (T69.setTop (mkF m 208 #[.val (.int p1), .val (.int p2), .val (.int p3), .val (.int p4), .val (.ref av1), .val (.ref av3), .val (.ref av5), .val (.ref b6), .val (.ref b9), .val (.ref b12), .val (.int ((p4 &&& (2147483647 : Int32)) % (5 : Int32))), .val (.ref av1), .val (.ref av1)] [(.int (1 : Int32))])) _
    exact retN X69 hx (t := .boolean) Bd.returns (by simp) (hb hby at_208) hr
  · show QF h0 n0 _ T69.heap _
    rw [e69]
    exact ⟨rfl, N69⟩
theorem own_size {s : State} {args : Array Value} {t : Term} {b : Addr} {cl : Cell} (ev : t.eval args s none [] s = some (.ref b)) (ha : s.arrayAt? b = some cl)
    (h4 : (Jvm.Cond.eq (Term.length t) (Term.int 256)).value args s none s [] = some true) : cl.slots.size = 256 := by
  obtain ⟨x, y, e1, e2, -, -⟩ := cmp_v (Or.inl h4)
  have hl : cl.slots.size < 2 ^ 31 := by
    refine Nat.lt_of_not_le fun q => ?_
    simp only [Term.eval, ev, ha, Option.bind_eq_bind, Option.bind_some, if_neg (Nat.not_lt.mpr q)] at e1
    cases e1
  have e3 := len_f ev ha hl
  have e4 : cl.slots.size.toInt32 = (256 : Int32) := by simpa [Cond.value, e3, Term.int_eval] using h4
  have e5 := len_toInt hl
  rw [e4] at e5
  have e6 : (256 : Int32).toInt = 256 := by decide
  omega
theorem own_elem {s : State} {args : Array Value} {t : Term} {b : Addr} {cl : Cell} {i : Nat} {x : Addr} (ev : t.eval args s none [i] s = some (.ref b)) (ha : s.arrayAt? b = some cl) (hi : i < 256) (h : (Term.elem t (Term.index 0)).eval args s none [i] s = some (.ref x)) : cl.slots[i]? = some (.ref x) := by
  have e1 : (Term.index 0).eval args s none [i] s = some (.int i.toInt32) := rfl
  have a1 : i.toInt32.toInt = i := len_toInt (by omega)
  have hn : ¬ i.toInt32 < 0 := by
    rw [Int32.lt_iff_toInt_lt, a1]
    have e0 : (0 : Int32).toInt = 0 := by decide
    omega
  have e2 := elem_f ev e1 ha hn
  have e3 : i.toInt32.toNatClampNeg = i := by
    show i.toInt32.toInt.toNat = i
    rw [a1]; rfl
  rw [e3] at e2
  exact e2.symm.trans h
theorem own_cache {s : State} {args : Array Value} {t : Term} {b : Addr} {c2 : Jvm.Cond} (ev : ∀ idx, t.eval args s none idx s = some (.ref b))
    (h2 : (Jvm.Cond.arrayOf t (.object "java/lang/Integer")).value args s none s [] = some true)
    (h4 : (Jvm.Cond.eq (Term.length t) (Term.int 256)).value args s none s [] = some true)
    (h5 : (Jvm.Cond.all t (Jvm.Cond.and (Jvm.Cond.exactly (Term.elem t (Term.index 0)) "java/lang/Integer") c2)).value args s none s [] = some true) : ICache s b := by
  obtain ⟨cl, Ar⟩ := Arr.start (ev []) h2
  have ha : s.arrayAt? b = some cl := Ar.fin (Vm.Alike.refl _)
  have hs := own_size (ev []) ha h4
  refine ⟨cl, Ar, hs, fun i hi => ?_⟩
  obtain ⟨hx, -⟩ := and_e (Cond.all_elim (ev []) ha h5 i (by rw [hs]; exact hi))
  obtain ⟨a, c, cell, k, e1, -⟩ := Cond.exactly_spec (beq_iff_eq.mpr hx : (Jvm.Cond.exactly (Term.elem t (Term.index 0)) "java/lang/Integer").holds args s none s [i] = true)
  exact ⟨a, own_elem (ev [i]) ha hi e1⟩
theorem own_eqI {s : State} {args : Array Value} {t : Term} {k : Int32} (h : (Jvm.Cond.eq t (Term.int k)).value args s none s [] = some true) : t.eval args s none [] s = some (.int k) := by
  obtain ⟨x, y, e1, e2, k1, k2⟩ := cmp_v (Or.inl h)
  rw [Term.int_eval] at e2
  cases e2
  obtain ⟨z, rfl⟩ := k2
  have e3 : z = k := by simpa [Cond.value, e1, Term.int_eval] using h
  rw [e1, e3]
set_option maxRecDepth 65536 in
set_option maxHeartbeats 40000000 in
theorem comes_1 {Post : Tables → Env → Array Value → State → Outcome → State → Prop} (hpost : ∀ tb e args s v u, (limb_1_1.after args s (.returned v) u = true ∧ limb_1_2.after args s (.returned v) u = true ∧ True) → FrameEnd s (.returned v) u (Jvm.fieldLocs frame_1_writes args s ++ Jvm.arrayLocs frame_1_arrays args s ++ Jvm.staticLocs frame_1_statics s) 24 128 → Post tb e args s (.returned v) u) :
    ArmFor flags0 classFile x code maxLocals ret World_1 tables_1 room_1 Calls_1 rest_1 Pre_1 Post := by
  intro l hfl _ _ p e ha hc hk s m args below hf hA hF happ hP
  obtain ⟨hcalls, hrest, hpre⟩ := hP
  obtain ⟨-, -, -, hnamed, -, -, -, hat⟩ := (Spec.applies_iff hf).mp happ
  obtain ⟨hg, hn⟩ := and_e (Cond.before_iff.mp (show (Jvm.Cond.and given_1 narrow_1).before args s = true from hpre))
  obtain ⟨hcount, hk0⟩ := and_e hg
  obtain ⟨ha0, hk1⟩ := and_e hk0
  obtain ⟨ha1, hk2⟩ := and_e hk1
  obtain ⟨ha2, hk3⟩ := and_e hk2
  have ha3 := hk3
  obtain ⟨w0, w1, w2, w3, rfl⟩ : ∃ w0 w1 w2 w3 : Value, args = #[w0, w1, w2, w3] := by
    have hs : args.size = 4 := by simpa [Cond.value, given_1] using hcount
    obtain ⟨L⟩ := args
    match L, hs with
    | [w0, w1, w2, w3], _ => exact ⟨w0, w1, w2, w3, rfl⟩
  obtain ⟨i0, ei0⟩ := is_v ha0
  obtain rfl : w0 = (.int i0) := Option.some.inj ei0
  obtain ⟨i1, ei1⟩ := is_v ha1
  obtain rfl : w1 = (.int i1) := Option.some.inj ei1
  obtain ⟨i2, ei2⟩ := is_v ha2
  obtain rfl : w2 = (.int i2) := Option.some.inj ei2
  obtain ⟨i3, ei3⟩ := is_v ha3
  obtain rfl : w3 = (.int i3) := Option.some.inj ei3
  have hw := fun d (hd : d ∈ tables_1) => atoms_spec (ws := Jvm.Cond.code x code maxLocals ret :: tables_1) hat d (List.mem_cons_of_mem _ hd)
  obtain ⟨hsets, hown0⟩ := atoms_of _ (rest_1_c_eq ▸ (show rest_1_c.before _ s = true from hrest))
  have hz := fun i {d : Jvm.Cond} (h : jdkStatics_1[i]? = some d) => hsets d (List.mem_of_getElem? h)
  have w4 := Cond.before_iff.mp (hz 4 rfl)
  obtain ⟨cb, ev⟩ := arr_v w4
  have SCZ := Sta.start ev (Or.inr ⟨ow hw 5 rfl, hz 2 rfl⟩)
  have w3 := Cond.before_iff.mp (hz 3 rfl)
  have evh : (Term.static "java/lang/Integer$IntegerCache" "high" "I").eval _ s none [] s = some (.int 127) := own_eqI w3
  have SHZ := Sta.start evh (Or.inr ⟨ow hw 5 rfl, hz 0 rfl⟩)
  have LC := own_cache (fun _ => ev) w4 (Cond.before_iff.mp (hz 6 rfl)) (Cond.before_iff.mp (hz 7 rfl))
  have hmain : MetFree l x (head1 (Jvm.Cond.code x code maxLocals ret :: tables_1) room_1) (fun a U => a = #[(.int i0), (.int i1), (.int i2), (.int i3)] ∧ s.Warmed39 U.vm ∧ U.heap = s.heap) (fun _ _ _ _ _ => True) (fun _ U o U' => ∃ v L, o = .returned v ∧ QF s.heap s.heap.size v U'.heap L ∧ FrameEnd U o U' L room_1.cells room_1.slots) := by
    rcases own_mod5 i3 with q | q | q | q | q
    · exact rm0_0 l s _ hw tables_1 i0 i1 i2 i3 cb s.heap s.heap.size (Nat.le_refl _) (Old.start s) SHZ SCZ LC (by rw [q]; decide) (by rw [q]; decide) (by rw [q]; decide) (by rw [q]; decide)
    · exact rm0_1 l s _ hw tables_1 i0 i1 i2 i3 cb s.heap s.heap.size (Nat.le_refl _) (Old.start s) SHZ SCZ LC q
    · exact rm0_2 l s _ hw tables_1 i0 i1 i2 i3 cb s.heap s.heap.size (Nat.le_refl _) (Old.start s) SHZ SCZ LC (by rw [q]; decide) q
    · exact rm0_3 l s _ hw tables_1 i0 i1 i2 i3 cb s.heap s.heap.size (Nat.le_refl _) (Old.start s) SHZ SCZ LC (by rw [q]; decide) (by rw [q]; decide) q
    · exact rm0_4 l s _ hw tables_1 i0 i1 i2 i3 cb s.heap s.heap.size (Nat.le_refl _) (Old.start s) SHZ SCZ LC (by rw [q]; decide) (by rw [q]; decide) (by rw [q]; decide) q
  obtain ⟨n, o, h1, h2, h3, _, L, rfl, ⟨rfl, N⟩, hq⟩ := hmain p e ha hc hk s m _ below hf ((Spec.applies_iff_loose hf).mp happ).1 ⟨rfl, State.Warmed39.refl s, rfl⟩ trivial
  refine ⟨n, _, h1, h2, h3, hpost _ _ _ _ _ _ ⟨Cond.after_iff.mpr rfl, Cond.after_iff.mpr (eq_i res_at (Term.int_eval (1)) rfl), trivial⟩ ⟨hq.1, hq.2.1, (hq.2.2.sift fun y hy => Or.inr (N y hy)).mono (by decide) (by decide)⟩⟩
theorem main_1_1 : Claimed_1_1 := comes_1 fun _ _ _ _ _ _ h hF => ⟨h.1, hF⟩
theorem main_1_2 : Claimed_1_2 := comes_1 fun _ _ _ _ _ _ h hF => ⟨h.2.1, hF⟩
end Jvm.Pilot.@@N@@
namespace Jvm.Pilot.@@N@@
open Jvm Jvm.ClassFile Sem Op Lib Jvm.Free Jvm.Stand Jvm.Pilot.@@N@@.Jvm.D
/-! MADE BY PROGRAM (witnessworld.py) out of the Statement's table words and the real class files: 16 classes; the members and pool entries that the words name. The judged class is class 1, her method 1. -/
namespace start1
open Jvm.ClassFile
def u (s : String) : CpInfo := .utf8 (stringToUtf16 s)
/-- a pool by its gaps: so many unusable entries, then the entry; so many at the end -/
def gap : Nat → List CpInfo → List CpInfo
  | 0, r => r
  | n + 1, r => .unusable :: gap n r
def poolList (es : List (Nat × CpInfo)) (last : Nat) : List CpInfo := es.foldr (fun e r => gap e.1 (e.2 :: r)) (gap last [])
def pool (es : List (Nat × CpInfo)) (last : Nat) : Array CpInfo := ⟨poolList es last⟩
def fileOf (pool : Array CpInfo) (this : Nat) (attrs : Array Attribute := #[]) (ms : Array MethodInfo := #[]) (fl : Nat := 33) (sup : Nat := 0) (ifs : Array Nat := #[]) (fds : Array FieldInfo := #[]) : ClassFile where
  minorVersion := 0
  majorVersion := 65
  constantPool := pool
  accessFlags := fl
  thisClass := this
  superClass := sup
  interfaces := ifs
  fields := fds
  methods := ms
  attributes := attrs
def plain (name : String) (sup : Option ClassId) : Class where
  name := name
  kind := .ordinary
  loader := none
  accessFlags := 33
  super := sup
  interfaces := #[]
  cf := none
  fields := #[]
  methods := #[]
  instanceTypes := #[]
  staticTypes := #[]
  resolved := #[]
  callSites := []
  init := .initialized
  statics := none
  mirror := none

def pool0 : Array CpInfo := pool [(5, u "<init>"), (0, u "()V"), (1, .class_ 10), (1, u "java/lang/Object")] 113

def k0c0 : Code := { maxStack := 0, maxLocals := 1, code := object_method_1_code, exceptionTable := #[], attributes := #[] }
def k0m0 : Method := { name := "<init>", desc := "()V", sig := { parameters := [], returnType := none }, accessFlags := 1, code := some k0c0 }
/-- java/lang/Object -/
def k0 : Class := { plain "java/lang/Object" none with
  accessFlags := 33
  interfaces := #[]
  cf := some (fileOf pool0 8 #[] #[{ accessFlags := 1, nameIndex := 5, descriptorIndex := 6, attributes := #[] }] 33 0 #[] #[])
  fields := #[]
  methods := #[k0m0]
  instanceTypes := #[]
  staticTypes := #[]
  resolved := Array.replicate 124 none
  statics := none }

def pool1 : Array CpInfo := pool [(2, .class_ 4), (1, u "java/lang/Object"), (0, u "<init>"), (0, u "()V"), (0, .methodref 8 9), (0, .class_ 10), (0, .nameAndType 11 12), (0, u "java/lang/Integer"), (0, u "valueOf"), (0, u "(I)Ljava/lang/Integer;"), (0, .class_ 14), (0, u "com/example/framelatch/framelatch/Tree$Place"), (0, .methodref 13 16), (0, .nameAndType 5 17), (0, u "(Ljava/lang/Object;)V"), (0, .integer 2147483647), (0, .methodref 13 20), (0, .nameAndType 21 22), (0, u "hangUnder"), (0, u "(Lcom/example/framelatch/framelatch/Tree$Place;)V"), (0, .methodref 13 24), (0, .nameAndType 25 26), (0, u "parent"), (0, u "()Ljava/lang/Object;"), (0, .class_ 28), (0, u "com/example/framelatch/framelatch/PlaceParentPinLaw"), (2, u "law"), (0, u "(IIII)Z")] 7

def k1m0 : Method := { name := "<init>", desc := "()V", sig := { parameters := [], returnType := none }, accessFlags := 1, code := none }
def k1c1 : Code := { maxStack := 3, maxLocals := 13, code := code, exceptionTable := #[], attributes := #[] }
def k1m1 : Method := { name := "law", desc := "(IIII)Z", sig := { parameters := [.int, .int, .int, .int], returnType := some .boolean }, accessFlags := 9, code := some k1c1 }
/-- com/example/framelatch/framelatch/PlaceParentPinLaw -/
def k1 : Class := { plain "com/example/framelatch/framelatch/PlaceParentPinLaw" (some 0) with
  accessFlags := 49
  interfaces := #[]
  cf := some (fileOf pool1 27 #[] #[{ accessFlags := 1, nameIndex := 5, descriptorIndex := 6, attributes := #[] }, { accessFlags := 9, nameIndex := 31, descriptorIndex := 32, attributes := #[] }] 49 2 #[] #[])
  fields := #[]
  methods := #[k1m0, k1m1]
  instanceTypes := #[]
  staticTypes := #[]
  resolved := Array.replicate 40 none
  statics := none }

def pool2 : Array CpInfo := pool [(1, .class_ 2), (0, u "java/io/Serializable"), (0, .class_ 4), (0, u "java/lang/Object")] 2

/-- java/io/Serializable -/
def k2 : Class := { plain "java/io/Serializable" (some 0) with
  accessFlags := 1537
  interfaces := #[]
  cf := some (fileOf pool2 1 #[] #[] 1537 3 #[] #[])
  fields := #[]
  methods := #[]
  instanceTypes := #[]
  staticTypes := #[]
  resolved := Array.replicate 7 none
  statics := none }

def pool3 : Array CpInfo := pool [(1, .methodref 2 3), (0, .class_ 4), (0, .nameAndType 5 6), (0, u "java/lang/Object"), (0, u "<init>"), (0, u "()V"), (1, .class_ 10), (1, u "java/lang/Number"), (2, .class_ 14), (0, u "java/io/Serializable"), (0, u "serialVersionUID"), (0, u "J")] 20

def k3c0 : Code := { maxStack := 1, maxLocals := 1, code := jdk_18_method_1_code, exceptionTable := #[], attributes := #[] }
def k3m0 : Method := { name := "<init>", desc := "()V", sig := { parameters := [], returnType := none }, accessFlags := 1, code := some k3c0 }
/-- java/lang/Number -/
def k3 : Class := { plain "java/lang/Number" (some 0) with
  accessFlags := 1057
  interfaces := #[2]
  cf := some (fileOf pool3 8 #[] #[{ accessFlags := 1, nameIndex := 5, descriptorIndex := 6, attributes := #[] }] 1057 2 #[13] #[{ accessFlags := 26, nameIndex := 15, descriptorIndex := 16, attributes := #[] }])
  fields := #[{ name := "serialVersionUID", type := .long, accessFlags := 26, slot := 0, constantValue := 0 }]
  methods := #[k3m0]
  instanceTypes := #[]
  staticTypes := #[.long]
  resolved := Array.replicate 37 none
  statics := none }

def pool4 : Array CpInfo := pool [(1, .class_ 2), (0, u "java/lang/Comparable"), (0, .class_ 4), (0, u "java/lang/Object")] 7

/-- java/lang/Comparable -/
def k4 : Class := { plain "java/lang/Comparable" (some 0) with
  accessFlags := 1537
  interfaces := #[]
  cf := some (fileOf pool4 1 #[] #[] 1537 3 #[] #[])
  fields := #[]
  methods := #[]
  instanceTypes := #[]
  staticTypes := #[]
  resolved := Array.replicate 12 none
  statics := none }

def pool5 : Array CpInfo := pool [(1, .class_ 2), (0, u "java/lang/constant/Constable"), (0, .class_ 4), (0, u "java/lang/Object")] 6

/-- java/lang/constant/Constable -/
def k5 : Class := { plain "java/lang/constant/Constable" (some 0) with
  accessFlags := 1537
  interfaces := #[]
  cf := some (fileOf pool5 1 #[] #[] 1537 3 #[] #[])
  fields := #[]
  methods := #[]
  instanceTypes := #[]
  staticTypes := #[]
  resolved := Array.replicate 11 none
  statics := none }

def pool6 : Array CpInfo := pool [(1, .class_ 2), (0, u "java/lang/constant/ConstantDesc"), (0, .class_ 4), (0, u "java/lang/Object")] 32

/-- java/lang/constant/ConstantDesc -/
def k6 : Class := { plain "java/lang/constant/ConstantDesc" (some 0) with
  accessFlags := 1537
  interfaces := #[]
  cf := some (fileOf pool6 1 #[] #[] 1537 3 #[] #[])
  fields := #[]
  methods := #[]
  instanceTypes := #[]
  staticTypes := #[]
  resolved := Array.replicate 37 none
  statics := none }

def pool7 : Array CpInfo := pool [(1, .class_ 2), (0, u "java/lang/Integer"), (16, u "digits"), (0, u "[C"), (46, u "<init>"), (17, u "DigitOnes"), (0, u "[B"), (2, u "DigitTens"), (10, .nameAndType 67 101), (0, u "()V"), (85, u "valueOf"), (0, u "(I)Ljava/lang/Integer;"), (0, .class_ 190), (0, u "java/lang/Integer$IntegerCache"), (0, .fieldref 189 192), (0, .nameAndType 193 194), (0, u "high"), (0, u "I"), (0, .fieldref 189 196), (0, .nameAndType 197 198), (0, u "cache"), (0, u "[Ljava/lang/Integer;"), (0, .methodref 1 200), (0, .nameAndType 67 201), (0, u "(I)V"), (0, .methodref 203 100), (0, .class_ 204), (0, u "java/lang/Number"), (0, .fieldref 1 206), (0, .nameAndType 207 194), (0, u "value"), (94, u "TYPE"), (0, u "Ljava/lang/Class;"), (0, .class_ 305), (0, u "java/lang/Comparable"), (0, .class_ 307), (0, u "java/lang/constant/Constable"), (0, .class_ 309), (0, u "java/lang/constant/ConstantDesc"), (0, u "MIN_VALUE"), (1, u "MAX_VALUE"), (3, u "SIZE"), (1, u "BYTES"), (1, u "serialVersionUID"), (0, u "J")] 131

def k7c0 : Code := { maxStack := 3, maxLocals := 1, code := jdk_33_method_22_code, exceptionTable := #[], attributes := #[] }
def k7m0 : Method := { name := "valueOf", desc := "(I)Ljava/lang/Integer;", sig := { parameters := [.int], returnType := some (.object "java/lang/Integer") }, accessFlags := 9, code := some k7c0 }
def k7c1 : Code := { maxStack := 2, maxLocals := 2, code := jdk_33_method_23_code, exceptionTable := #[], attributes := #[] }
def k7m1 : Method := { name := "<init>", desc := "(I)V", sig := { parameters := [.int], returnType := none }, accessFlags := 1, code := some k7c1 }
/-- java/lang/Integer -/
def k7 : Class := { plain "java/lang/Integer" (some 3) with
  accessFlags := 49
  interfaces := #[4, 5, 6]
  cf := some (fileOf pool7 1 #[.nestMembers #[189]] #[{ accessFlags := 9, nameIndex := 187, descriptorIndex := 188, attributes := #[] }, { accessFlags := 1, nameIndex := 67, descriptorIndex := 201, attributes := #[] }] 49 203 #[304, 306, 308] #[{ accessFlags := 25, nameIndex := 310, descriptorIndex := 194, attributes := #[] }, { accessFlags := 25, nameIndex := 312, descriptorIndex := 194, attributes := #[] }, { accessFlags := 25, nameIndex := 302, descriptorIndex := 303, attributes := #[] }, { accessFlags := 24, nameIndex := 19, descriptorIndex := 20, attributes := #[] }, { accessFlags := 24, nameIndex := 89, descriptorIndex := 86, attributes := #[] }, { accessFlags := 24, nameIndex := 85, descriptorIndex := 86, attributes := #[] }, { accessFlags := 18, nameIndex := 207, descriptorIndex := 194, attributes := #[] }, { accessFlags := 25, nameIndex := 316, descriptorIndex := 194, attributes := #[] }, { accessFlags := 25, nameIndex := 318, descriptorIndex := 194, attributes := #[] }, { accessFlags := 26, nameIndex := 320, descriptorIndex := 321, attributes := #[] }])
  fields := #[{ name := "MIN_VALUE", type := .int, accessFlags := 25, slot := 0, constantValue := 0 }, { name := "MAX_VALUE", type := .int, accessFlags := 25, slot := 1, constantValue := 0 }, { name := "TYPE", type := (.object "java/lang/Class"), accessFlags := 25, slot := 2, constantValue := 0 }, { name := "digits", type := (.array .char), accessFlags := 24, slot := 3, constantValue := 0 }, { name := "DigitTens", type := (.array .byte), accessFlags := 24, slot := 4, constantValue := 0 }, { name := "DigitOnes", type := (.array .byte), accessFlags := 24, slot := 5, constantValue := 0 }, { name := "value", type := .int, accessFlags := 18, slot := 0, constantValue := 0 }, { name := "SIZE", type := .int, accessFlags := 25, slot := 6, constantValue := 0 }, { name := "BYTES", type := .int, accessFlags := 25, slot := 7, constantValue := 0 }, { name := "serialVersionUID", type := .long, accessFlags := 26, slot := 8, constantValue := 0 }]
  methods := #[k7m0, k7m1]
  instanceTypes := #[.int]
  staticTypes := #[.int, .int, (.object "java/lang/Class"), (.array .char), (.array .byte), (.array .byte), .int, .int, .long]
  resolved := Array.replicate 453 none
  statics := none }

def pool8 : Array CpInfo := pool [(2, .class_ 4), (1, u "java/lang/Object"), (0, u "<init>"), (0, u "()V"), (0, .class_ 8), (0, u "java/lang/Integer"), (7, .class_ 18), (1, u "java/lang/Integer$IntegerCache"), (0, u "$assertionsDisabled"), (0, u "Z"), (26, u "high"), (0, u "I"), (8, u "archivedCache"), (0, u "[Ljava/lang/Integer;"), (12, u "cache"), (0, u "low")] 27

def k8m0 : Method := { name := "<init>", desc := "()V", sig := { parameters := [], returnType := none }, accessFlags := 2, code := none }
/-- java/lang/Integer$IntegerCache -/
def k8 : Class := { plain "java/lang/Integer$IntegerCache" (some 0) with
  accessFlags := 48
  interfaces := #[]
  cf := some (fileOf pool8 16 #[.nestHost 7] #[{ accessFlags := 2, nameIndex := 5, descriptorIndex := 6, attributes := #[] }] 48 2 #[] #[{ accessFlags := 24, nameIndex := 72, descriptorIndex := 48, attributes := #[] }, { accessFlags := 24, nameIndex := 47, descriptorIndex := 48, attributes := #[] }, { accessFlags := 24, nameIndex := 71, descriptorIndex := 58, attributes := #[] }, { accessFlags := 8, nameIndex := 57, descriptorIndex := 58, attributes := #[] }, { accessFlags := 4120, nameIndex := 19, descriptorIndex := 20, attributes := #[] }])
  fields := #[{ name := "low", type := .int, accessFlags := 24, slot := 0, constantValue := 0 }, { name := "high", type := .int, accessFlags := 24, slot := 1, constantValue := 0 }, { name := "cache", type := (.array (.object "java/lang/Integer")), accessFlags := 24, slot := 2, constantValue := 0 }, { name := "archivedCache", type := (.array (.object "java/lang/Integer")), accessFlags := 8, slot := 3, constantValue := 0 }, { name := "$assertionsDisabled", type := .boolean, accessFlags := 4120, slot := 4, constantValue := 0 }]
  methods := #[k8m0]
  instanceTypes := #[]
  staticTypes := #[.int, .int, (.array (.object "java/lang/Integer")), (.array (.object "java/lang/Integer")), .boolean]
  resolved := Array.replicate 100 none
  statics := some 0 }

def pool9 : Array CpInfo := pool [(1, .methodref 2 3), (0, .class_ 4), (0, .nameAndType 5 6), (0, u "java/lang/Object"), (0, u "<init>"), (0, u "()V"), (0, .fieldref 8 9), (0, .class_ 10), (0, .nameAndType 11 12), (0, u "com/example/framelatch/framelatch/Tree$Place"), (0, u "node"), (0, u "Ljava/lang/Object;"), (0, .fieldref 8 14), (0, .nameAndType 15 12), (0, u "top"), (0, .fieldref 8 17), (0, .nameAndType 18 19), (0, u "parent"), (0, u "Lcom/example/framelatch/framelatch/Tree$Place;"), (0, .methodref 8 21), (0, .nameAndType 22 23), (0, u "representative"), (0, u "()Lcom/example/framelatch/framelatch/Tree$Place;"), (0, .fieldref 8 25), (0, .nameAndType 26 27), (0, u "rank"), (0, u "I"), (0, .fieldref 8 29), (0, .nameAndType 30 19), (0, u "link"), (3, u "(Ljava/lang/Object;)V"), (3, u "()Ljava/lang/Object;"), (2, u "hangUnder"), (0, u "(Lcom/example/framelatch/framelatch/Tree$Place;)V"), (6, .class_ 50), (0, u "com/example/framelatch/framelatch/Tree")] 2

def k9c0 : Code := { maxStack := 2, maxLocals := 2, code := prog_62_method_1_code, exceptionTable := #[], attributes := #[] }
def k9m0 : Method := { name := "<init>", desc := "(Ljava/lang/Object;)V", sig := { parameters := [(.object "java/lang/Object")], returnType := none }, accessFlags := 0, code := some k9c0 }
def k9c1 : Code := { maxStack := 1, maxLocals := 1, code := prog_62_method_2_code, exceptionTable := #[], attributes := #[] }
def k9m1 : Method := { name := "parent", desc := "()Ljava/lang/Object;", sig := { parameters := [], returnType := some (.object "java/lang/Object") }, accessFlags := 0, code := some k9c1 }
def k9c2 : Code := { maxStack := 3, maxLocals := 4, code := prog_62_method_4_code, exceptionTable := #[], attributes := #[] }
def k9m2 : Method := { name := "hangUnder", desc := "(Lcom/example/framelatch/framelatch/Tree$Place;)V", sig := { parameters := [(.object "com/example/framelatch/framelatch/Tree$Place")], returnType := none }, accessFlags := 0, code := some k9c2 }
def k9c3 : Code := { maxStack := 2, maxLocals := 2, code := prog_62_method_5_code, exceptionTable := #[], attributes := #[] }
def k9m3 : Method := { name := "representative", desc := "()Lcom/example/framelatch/framelatch/Tree$Place;", sig := { parameters := [], returnType := some (.object "com/example/framelatch/framelatch/Tree$Place") }, accessFlags := 2, code := some k9c3 }
/-- com/example/framelatch/framelatch/Tree$Place -/
def k9 : Class := { plain "com/example/framelatch/framelatch/Tree$Place" (some 0) with
  accessFlags := 48
  interfaces := #[]
  cf := some (fileOf pool9 8 #[.nestHost 49] #[{ accessFlags := 0, nameIndex := 5, descriptorIndex := 34, attributes := #[] }, { accessFlags := 0, nameIndex := 18, descriptorIndex := 38, attributes := #[] }, { accessFlags := 0, nameIndex := 41, descriptorIndex := 42, attributes := #[] }, { accessFlags := 2, nameIndex := 22, descriptorIndex := 23, attributes := #[] }] 48 2 #[] #[{ accessFlags := 18, nameIndex := 11, descriptorIndex := 12, attributes := #[] }, { accessFlags := 2, nameIndex := 18, descriptorIndex := 19, attributes := #[] }, { accessFlags := 2, nameIndex := 30, descriptorIndex := 19, attributes := #[] }, { accessFlags := 2, nameIndex := 15, descriptorIndex := 12, attributes := #[] }, { accessFlags := 2, nameIndex := 26, descriptorIndex := 27, attributes := #[] }])
  fields := #[{ name := "node", type := (.object "java/lang/Object"), accessFlags := 18, slot := 0, constantValue := 0 }, { name := "parent", type := (.object "com/example/framelatch/framelatch/Tree$Place"), accessFlags := 2, slot := 1, constantValue := 0 }, { name := "link", type := (.object "com/example/framelatch/framelatch/Tree$Place"), accessFlags := 2, slot := 2, constantValue := 0 }, { name := "top", type := (.object "java/lang/Object"), accessFlags := 2, slot := 3, constantValue := 0 }, { name := "rank", type := .int, accessFlags := 2, slot := 4, constantValue := 0 }]
  methods := #[k9m0, k9m1, k9m2, k9m3]
  instanceTypes := #[(.object "java/lang/Object"), (.object "com/example/framelatch/framelatch/Tree$Place"), (.object "com/example/framelatch/framelatch/Tree$Place"), (.object "java/lang/Object"), .int]
  staticTypes := #[]
  resolved := Array.replicate 53 none
  statics := none }

def pool10 : Array CpInfo := pool [(1, u "java/lang/Cloneable"), (0, .class_ 1), (0, u "java/lang/Object"), (0, .class_ 3)] 3

/-- java/lang/Cloneable -/
def k10 : Class := { plain "java/lang/Cloneable" (some 0) with
  accessFlags := 1537
  interfaces := #[]
  cf := some (fileOf pool10 2 #[] #[] 1537 4 #[] #[])
  fields := #[]
  methods := #[]
  instanceTypes := #[]
  staticTypes := #[]
  resolved := Array.replicate 8 none
  statics := none }

/-- the primitive byte -/
def k11 : Class := { plain "byte" none with kind := .primitive 'B', accessFlags := 0x411 }
/-- [B -/
def k12 : Class := { plain "[B" (some 0) with kind := .array 11 .byte, interfaces := #[10, 2], accessFlags := 1041 }

/-- the primitive int -/
def k13 : Class := { plain "int" none with kind := .primitive 'I', accessFlags := 0x411 }
/-- [I -/
def k14 : Class := { plain "[I" (some 0) with kind := .array 13 .int, interfaces := #[10, 2], accessFlags := 1041 }

/-- [Ljava/lang/Integer; -/
def k15 : Class := { plain "[Ljava/lang/Integer;" (some 0) with kind := .array 7 (.object "java/lang/Integer"), interfaces := #[10, 2], accessFlags := 1041 }

def heap : Heap := #[{ cls := 8, slots := #[.int 0, .int 127, .ref 1, .null, .int 0], vm := .statics 8 },
  { cls := 15, slots := #[.ref 2, .ref 3, .ref 4, .ref 5, .ref 6, .ref 7, .ref 8, .ref 9, .ref 10, .ref 11, .ref 12, .ref 13, .ref 14, .ref 15, .ref 16, .ref 17, .ref 18, .ref 19, .ref 20, .ref 21, .ref 22, .ref 23, .ref 24, .ref 25, .ref 26, .ref 27, .ref 28, .ref 29, .ref 30, .ref 31, .ref 32, .ref 33, .ref 34, .ref 35, .ref 36, .ref 37, .ref 38, .ref 39, .ref 40, .ref 41, .ref 42, .ref 43, .ref 44, .ref 45, .ref 46, .ref 47, .ref 48, .ref 49, .ref 50, .ref 51, .ref 52, .ref 53, .ref 54, .ref 55, .ref 56, .ref 57, .ref 58, .ref 59, .ref 60, .ref 61, .ref 62, .ref 63, .ref 64, .ref 65, .ref 66, .ref 67, .ref 68, .ref 69, .ref 70, .ref 71, .ref 72, .ref 73, .ref 74, .ref 75, .ref 76, .ref 77, .ref 78, .ref 79, .ref 80, .ref 81, .ref 82, .ref 83, .ref 84, .ref 85, .ref 86, .ref 87, .ref 88, .ref 89, .ref 90, .ref 91, .ref 92, .ref 93, .ref 94, .ref 95, .ref 96, .ref 97, .ref 98, .ref 99, .ref 100, .ref 101, .ref 102, .ref 103, .ref 104, .ref 105, .ref 106, .ref 107, .ref 108, .ref 109, .ref 110, .ref 111, .ref 112, .ref 113, .ref 114, .ref 115, .ref 116, .ref 117, .ref 118, .ref 119, .ref 120, .ref 121, .ref 122, .ref 123, .ref 124, .ref 125, .ref 126, .ref 127, .ref 128, .ref 129, .ref 130, .ref 131, .ref 132, .ref 133, .ref 134, .ref 135, .ref 136, .ref 137, .ref 138, .ref 139, .ref 140, .ref 141, .ref 142, .ref 143, .ref 144, .ref 145, .ref 146, .ref 147, .ref 148, .ref 149, .ref 150, .ref 151, .ref 152, .ref 153, .ref 154, .ref 155, .ref 156, .ref 157, .ref 158, .ref 159, .ref 160, .ref 161, .ref 162, .ref 163, .ref 164, .ref 165, .ref 166, .ref 167, .ref 168, .ref 169, .ref 170, .ref 171, .ref 172, .ref 173, .ref 174, .ref 175, .ref 176, .ref 177, .ref 178, .ref 179, .ref 180, .ref 181, .ref 182, .ref 183, .ref 184, .ref 185, .ref 186, .ref 187, .ref 188, .ref 189, .ref 190, .ref 191, .ref 192, .ref 193, .ref 194, .ref 195, .ref 196, .ref 197, .ref 198, .ref 199, .ref 200, .ref 201, .ref 202, .ref 203, .ref 204, .ref 205, .ref 206, .ref 207, .ref 208, .ref 209, .ref 210, .ref 211, .ref 212, .ref 213, .ref 214, .ref 215, .ref 216, .ref 217, .ref 218, .ref 219, .ref 220, .ref 221, .ref 222, .ref 223, .ref 224, .ref 225, .ref 226, .ref 227, .ref 228, .ref 229, .ref 230, .ref 231, .ref 232, .ref 233, .ref 234, .ref 235, .ref 236, .ref 237, .ref 238, .ref 239, .ref 240, .ref 241, .ref 242, .ref 243, .ref 244, .ref 245, .ref 246, .ref 247, .ref 248, .ref 249, .ref 250, .ref 251, .ref 252, .ref 253, .ref 254, .ref 255, .ref 256, .ref 257], vm := .none },
  { cls := 7, slots := #[.int (-128)], vm := .none },
  { cls := 7, slots := #[.int (-127)], vm := .none },
  { cls := 7, slots := #[.int (-126)], vm := .none },
  { cls := 7, slots := #[.int (-125)], vm := .none },
  { cls := 7, slots := #[.int (-124)], vm := .none },
  { cls := 7, slots := #[.int (-123)], vm := .none },
  { cls := 7, slots := #[.int (-122)], vm := .none },
  { cls := 7, slots := #[.int (-121)], vm := .none },
  { cls := 7, slots := #[.int (-120)], vm := .none },
  { cls := 7, slots := #[.int (-119)], vm := .none },
  { cls := 7, slots := #[.int (-118)], vm := .none },
  { cls := 7, slots := #[.int (-117)], vm := .none },
  { cls := 7, slots := #[.int (-116)], vm := .none },
  { cls := 7, slots := #[.int (-115)], vm := .none },
  { cls := 7, slots := #[.int (-114)], vm := .none },
  { cls := 7, slots := #[.int (-113)], vm := .none },
  { cls := 7, slots := #[.int (-112)], vm := .none },
  { cls := 7, slots := #[.int (-111)], vm := .none },
  { cls := 7, slots := #[.int (-110)], vm := .none },
  { cls := 7, slots := #[.int (-109)], vm := .none },
  { cls := 7, slots := #[.int (-108)], vm := .none },
  { cls := 7, slots := #[.int (-107)], vm := .none },
  { cls := 7, slots := #[.int (-106)], vm := .none },
  { cls := 7, slots := #[.int (-105)], vm := .none },
  { cls := 7, slots := #[.int (-104)], vm := .none },
  { cls := 7, slots := #[.int (-103)], vm := .none },
  { cls := 7, slots := #[.int (-102)], vm := .none },
  { cls := 7, slots := #[.int (-101)], vm := .none },
  { cls := 7, slots := #[.int (-100)], vm := .none },
  { cls := 7, slots := #[.int (-99)], vm := .none },
  { cls := 7, slots := #[.int (-98)], vm := .none },
  { cls := 7, slots := #[.int (-97)], vm := .none },
  { cls := 7, slots := #[.int (-96)], vm := .none },
  { cls := 7, slots := #[.int (-95)], vm := .none },
  { cls := 7, slots := #[.int (-94)], vm := .none },
  { cls := 7, slots := #[.int (-93)], vm := .none },
  { cls := 7, slots := #[.int (-92)], vm := .none },
  { cls := 7, slots := #[.int (-91)], vm := .none },
  { cls := 7, slots := #[.int (-90)], vm := .none },
  { cls := 7, slots := #[.int (-89)], vm := .none },
  { cls := 7, slots := #[.int (-88)], vm := .none },
  { cls := 7, slots := #[.int (-87)], vm := .none },
  { cls := 7, slots := #[.int (-86)], vm := .none },
  { cls := 7, slots := #[.int (-85)], vm := .none },
  { cls := 7, slots := #[.int (-84)], vm := .none },
  { cls := 7, slots := #[.int (-83)], vm := .none },
  { cls := 7, slots := #[.int (-82)], vm := .none },
  { cls := 7, slots := #[.int (-81)], vm := .none },
  { cls := 7, slots := #[.int (-80)], vm := .none },
  { cls := 7, slots := #[.int (-79)], vm := .none },
  { cls := 7, slots := #[.int (-78)], vm := .none },
  { cls := 7, slots := #[.int (-77)], vm := .none },
  { cls := 7, slots := #[.int (-76)], vm := .none },
  { cls := 7, slots := #[.int (-75)], vm := .none },
  { cls := 7, slots := #[.int (-74)], vm := .none },
  { cls := 7, slots := #[.int (-73)], vm := .none },
  { cls := 7, slots := #[.int (-72)], vm := .none },
  { cls := 7, slots := #[.int (-71)], vm := .none },
  { cls := 7, slots := #[.int (-70)], vm := .none },
  { cls := 7, slots := #[.int (-69)], vm := .none },
  { cls := 7, slots := #[.int (-68)], vm := .none },
  { cls := 7, slots := #[.int (-67)], vm := .none },
  { cls := 7, slots := #[.int (-66)], vm := .none },
  { cls := 7, slots := #[.int (-65)], vm := .none },
  { cls := 7, slots := #[.int (-64)], vm := .none },
  { cls := 7, slots := #[.int (-63)], vm := .none },
  { cls := 7, slots := #[.int (-62)], vm := .none },
  { cls := 7, slots := #[.int (-61)], vm := .none },
  { cls := 7, slots := #[.int (-60)], vm := .none },
  { cls := 7, slots := #[.int (-59)], vm := .none },
  { cls := 7, slots := #[.int (-58)], vm := .none },
  { cls := 7, slots := #[.int (-57)], vm := .none },
  { cls := 7, slots := #[.int (-56)], vm := .none },
  { cls := 7, slots := #[.int (-55)], vm := .none },
  { cls := 7, slots := #[.int (-54)], vm := .none },
  { cls := 7, slots := #[.int (-53)], vm := .none },
  { cls := 7, slots := #[.int (-52)], vm := .none },
  { cls := 7, slots := #[.int (-51)], vm := .none },
  { cls := 7, slots := #[.int (-50)], vm := .none },
  { cls := 7, slots := #[.int (-49)], vm := .none },
  { cls := 7, slots := #[.int (-48)], vm := .none },
  { cls := 7, slots := #[.int (-47)], vm := .none },
  { cls := 7, slots := #[.int (-46)], vm := .none },
  { cls := 7, slots := #[.int (-45)], vm := .none },
  { cls := 7, slots := #[.int (-44)], vm := .none },
  { cls := 7, slots := #[.int (-43)], vm := .none },
  { cls := 7, slots := #[.int (-42)], vm := .none },
  { cls := 7, slots := #[.int (-41)], vm := .none },
  { cls := 7, slots := #[.int (-40)], vm := .none },
  { cls := 7, slots := #[.int (-39)], vm := .none },
  { cls := 7, slots := #[.int (-38)], vm := .none },
  { cls := 7, slots := #[.int (-37)], vm := .none },
  { cls := 7, slots := #[.int (-36)], vm := .none },
  { cls := 7, slots := #[.int (-35)], vm := .none },
  { cls := 7, slots := #[.int (-34)], vm := .none },
  { cls := 7, slots := #[.int (-33)], vm := .none },
  { cls := 7, slots := #[.int (-32)], vm := .none },
  { cls := 7, slots := #[.int (-31)], vm := .none },
  { cls := 7, slots := #[.int (-30)], vm := .none },
  { cls := 7, slots := #[.int (-29)], vm := .none },
  { cls := 7, slots := #[.int (-28)], vm := .none },
  { cls := 7, slots := #[.int (-27)], vm := .none },
  { cls := 7, slots := #[.int (-26)], vm := .none },
  { cls := 7, slots := #[.int (-25)], vm := .none },
  { cls := 7, slots := #[.int (-24)], vm := .none },
  { cls := 7, slots := #[.int (-23)], vm := .none },
  { cls := 7, slots := #[.int (-22)], vm := .none },
  { cls := 7, slots := #[.int (-21)], vm := .none },
  { cls := 7, slots := #[.int (-20)], vm := .none },
  { cls := 7, slots := #[.int (-19)], vm := .none },
  { cls := 7, slots := #[.int (-18)], vm := .none },
  { cls := 7, slots := #[.int (-17)], vm := .none },
  { cls := 7, slots := #[.int (-16)], vm := .none },
  { cls := 7, slots := #[.int (-15)], vm := .none },
  { cls := 7, slots := #[.int (-14)], vm := .none },
  { cls := 7, slots := #[.int (-13)], vm := .none },
  { cls := 7, slots := #[.int (-12)], vm := .none },
  { cls := 7, slots := #[.int (-11)], vm := .none },
  { cls := 7, slots := #[.int (-10)], vm := .none },
  { cls := 7, slots := #[.int (-9)], vm := .none },
  { cls := 7, slots := #[.int (-8)], vm := .none },
  { cls := 7, slots := #[.int (-7)], vm := .none },
  { cls := 7, slots := #[.int (-6)], vm := .none },
  { cls := 7, slots := #[.int (-5)], vm := .none },
  { cls := 7, slots := #[.int (-4)], vm := .none },
  { cls := 7, slots := #[.int (-3)], vm := .none },
  { cls := 7, slots := #[.int (-2)], vm := .none },
  { cls := 7, slots := #[.int (-1)], vm := .none },
  { cls := 7, slots := #[.int (0)], vm := .none },
  { cls := 7, slots := #[.int (1)], vm := .none },
  { cls := 7, slots := #[.int (2)], vm := .none },
  { cls := 7, slots := #[.int (3)], vm := .none },
  { cls := 7, slots := #[.int (4)], vm := .none },
  { cls := 7, slots := #[.int (5)], vm := .none },
  { cls := 7, slots := #[.int (6)], vm := .none },
  { cls := 7, slots := #[.int (7)], vm := .none },
  { cls := 7, slots := #[.int (8)], vm := .none },
  { cls := 7, slots := #[.int (9)], vm := .none },
  { cls := 7, slots := #[.int (10)], vm := .none },
  { cls := 7, slots := #[.int (11)], vm := .none },
  { cls := 7, slots := #[.int (12)], vm := .none },
  { cls := 7, slots := #[.int (13)], vm := .none },
  { cls := 7, slots := #[.int (14)], vm := .none },
  { cls := 7, slots := #[.int (15)], vm := .none },
  { cls := 7, slots := #[.int (16)], vm := .none },
  { cls := 7, slots := #[.int (17)], vm := .none },
  { cls := 7, slots := #[.int (18)], vm := .none },
  { cls := 7, slots := #[.int (19)], vm := .none },
  { cls := 7, slots := #[.int (20)], vm := .none },
  { cls := 7, slots := #[.int (21)], vm := .none },
  { cls := 7, slots := #[.int (22)], vm := .none },
  { cls := 7, slots := #[.int (23)], vm := .none },
  { cls := 7, slots := #[.int (24)], vm := .none },
  { cls := 7, slots := #[.int (25)], vm := .none },
  { cls := 7, slots := #[.int (26)], vm := .none },
  { cls := 7, slots := #[.int (27)], vm := .none },
  { cls := 7, slots := #[.int (28)], vm := .none },
  { cls := 7, slots := #[.int (29)], vm := .none },
  { cls := 7, slots := #[.int (30)], vm := .none },
  { cls := 7, slots := #[.int (31)], vm := .none },
  { cls := 7, slots := #[.int (32)], vm := .none },
  { cls := 7, slots := #[.int (33)], vm := .none },
  { cls := 7, slots := #[.int (34)], vm := .none },
  { cls := 7, slots := #[.int (35)], vm := .none },
  { cls := 7, slots := #[.int (36)], vm := .none },
  { cls := 7, slots := #[.int (37)], vm := .none },
  { cls := 7, slots := #[.int (38)], vm := .none },
  { cls := 7, slots := #[.int (39)], vm := .none },
  { cls := 7, slots := #[.int (40)], vm := .none },
  { cls := 7, slots := #[.int (41)], vm := .none },
  { cls := 7, slots := #[.int (42)], vm := .none },
  { cls := 7, slots := #[.int (43)], vm := .none },
  { cls := 7, slots := #[.int (44)], vm := .none },
  { cls := 7, slots := #[.int (45)], vm := .none },
  { cls := 7, slots := #[.int (46)], vm := .none },
  { cls := 7, slots := #[.int (47)], vm := .none },
  { cls := 7, slots := #[.int (48)], vm := .none },
  { cls := 7, slots := #[.int (49)], vm := .none },
  { cls := 7, slots := #[.int (50)], vm := .none },
  { cls := 7, slots := #[.int (51)], vm := .none },
  { cls := 7, slots := #[.int (52)], vm := .none },
  { cls := 7, slots := #[.int (53)], vm := .none },
  { cls := 7, slots := #[.int (54)], vm := .none },
  { cls := 7, slots := #[.int (55)], vm := .none },
  { cls := 7, slots := #[.int (56)], vm := .none },
  { cls := 7, slots := #[.int (57)], vm := .none },
  { cls := 7, slots := #[.int (58)], vm := .none },
  { cls := 7, slots := #[.int (59)], vm := .none },
  { cls := 7, slots := #[.int (60)], vm := .none },
  { cls := 7, slots := #[.int (61)], vm := .none },
  { cls := 7, slots := #[.int (62)], vm := .none },
  { cls := 7, slots := #[.int (63)], vm := .none },
  { cls := 7, slots := #[.int (64)], vm := .none },
  { cls := 7, slots := #[.int (65)], vm := .none },
  { cls := 7, slots := #[.int (66)], vm := .none },
  { cls := 7, slots := #[.int (67)], vm := .none },
  { cls := 7, slots := #[.int (68)], vm := .none },
  { cls := 7, slots := #[.int (69)], vm := .none },
  { cls := 7, slots := #[.int (70)], vm := .none },
  { cls := 7, slots := #[.int (71)], vm := .none },
  { cls := 7, slots := #[.int (72)], vm := .none },
  { cls := 7, slots := #[.int (73)], vm := .none },
  { cls := 7, slots := #[.int (74)], vm := .none },
  { cls := 7, slots := #[.int (75)], vm := .none },
  { cls := 7, slots := #[.int (76)], vm := .none },
  { cls := 7, slots := #[.int (77)], vm := .none },
  { cls := 7, slots := #[.int (78)], vm := .none },
  { cls := 7, slots := #[.int (79)], vm := .none },
  { cls := 7, slots := #[.int (80)], vm := .none },
  { cls := 7, slots := #[.int (81)], vm := .none },
  { cls := 7, slots := #[.int (82)], vm := .none },
  { cls := 7, slots := #[.int (83)], vm := .none },
  { cls := 7, slots := #[.int (84)], vm := .none },
  { cls := 7, slots := #[.int (85)], vm := .none },
  { cls := 7, slots := #[.int (86)], vm := .none },
  { cls := 7, slots := #[.int (87)], vm := .none },
  { cls := 7, slots := #[.int (88)], vm := .none },
  { cls := 7, slots := #[.int (89)], vm := .none },
  { cls := 7, slots := #[.int (90)], vm := .none },
  { cls := 7, slots := #[.int (91)], vm := .none },
  { cls := 7, slots := #[.int (92)], vm := .none },
  { cls := 7, slots := #[.int (93)], vm := .none },
  { cls := 7, slots := #[.int (94)], vm := .none },
  { cls := 7, slots := #[.int (95)], vm := .none },
  { cls := 7, slots := #[.int (96)], vm := .none },
  { cls := 7, slots := #[.int (97)], vm := .none },
  { cls := 7, slots := #[.int (98)], vm := .none },
  { cls := 7, slots := #[.int (99)], vm := .none },
  { cls := 7, slots := #[.int (100)], vm := .none },
  { cls := 7, slots := #[.int (101)], vm := .none },
  { cls := 7, slots := #[.int (102)], vm := .none },
  { cls := 7, slots := #[.int (103)], vm := .none },
  { cls := 7, slots := #[.int (104)], vm := .none },
  { cls := 7, slots := #[.int (105)], vm := .none },
  { cls := 7, slots := #[.int (106)], vm := .none },
  { cls := 7, slots := #[.int (107)], vm := .none },
  { cls := 7, slots := #[.int (108)], vm := .none },
  { cls := 7, slots := #[.int (109)], vm := .none },
  { cls := 7, slots := #[.int (110)], vm := .none },
  { cls := 7, slots := #[.int (111)], vm := .none },
  { cls := 7, slots := #[.int (112)], vm := .none },
  { cls := 7, slots := #[.int (113)], vm := .none },
  { cls := 7, slots := #[.int (114)], vm := .none },
  { cls := 7, slots := #[.int (115)], vm := .none },
  { cls := 7, slots := #[.int (116)], vm := .none },
  { cls := 7, slots := #[.int (117)], vm := .none },
  { cls := 7, slots := #[.int (118)], vm := .none },
  { cls := 7, slots := #[.int (119)], vm := .none },
  { cls := 7, slots := #[.int (120)], vm := .none },
  { cls := 7, slots := #[.int (121)], vm := .none },
  { cls := 7, slots := #[.int (122)], vm := .none },
  { cls := 7, slots := #[.int (123)], vm := .none },
  { cls := 7, slots := #[.int (124)], vm := .none },
  { cls := 7, slots := #[.int (125)], vm := .none },
  { cls := 7, slots := #[.int (126)], vm := .none },
  { cls := 7, slots := #[.int (127)], vm := .none }]
def classes : Array Class := #[k0, k1, k2, k3, k4, k5, k6, k7, k8, k9, k10, k11, k12, k13, k14, k15]
def interned : List (Array UInt16 × Addr) := []
def slotsUsed : Nat := 517
def theMethod : MethodId := ⟨1, 1⟩
def args0 : Array Value := #[.int 1, .int 2, .int 3, .int 2]
def aboutOver (below : List Frame) : State where
  vm := { classes := classes, interned := interned.toArray }
  heap := heap
  slotsUsed := slotsUsed
  threads := #[{ frames := .invoking theMethod args0 :: below }]
def below0 : List Frame := [.native { method := ⟨0, 0⟩, args := #[] }]
def about1 : State := aboutOver below0
def p0 : Program := .bare "" "" ""
def e0 : Env := launch0.env 0 0 0
theorem w_frames : about1.frames = Frame.invoking theMethod args0 :: below0 := rfl
set_option maxRecDepth 65536 in
theorem w_args : argsFit about1.vm theMethod args0 = true := by decide +kernel
set_option maxRecDepth 65536 in
theorem w_heap : heapFits about1 = true := by decide +kernel
set_option maxRecDepth 65536 in
theorem w_runnable : about1.curStatus? = some .runnable := by decide +kernel
set_option maxRecDepth 65536 in
theorem w_alone : about1.alone = true := by decide +kernel
set_option maxRecDepth 65536 in
theorem w_named : about1.methodNamed? x = some theMethod := by decide +kernel
set_option maxRecDepth 65536 in
theorem w_hears : about1.hears theMethod below0 = true := by decide +kernel
set_option maxRecDepth 65536 in
theorem w_ripe : about1.ripe theMethod args0 below0 = true := by decide +kernel
theorem w_running : about1.status = .running := rfl
set_option maxRecDepth 65536 in
theorem w_room : about1.hasRoom e0.platform room_1 = true :=
  launch0.hasRoom_least _ room_1 (by decide +kernel) (by decide +kernel) (by decide +kernel) (by decide +kernel) (by decide +kernel) (by decide +kernel)
theorem allAtoms_all (ts : List Jvm.Cond) (a : Array Jvm.Value) (st : Jvm.State) : (allAtoms ts).before a st = ts.all (fun c => c.before a st) := by
  induction ts with
  | nil => rfl
  | cons c t ih =>
    show (Jvm.Cond.and c (allAtoms t)).before a st = _
    rw [Jvm.Cond.before_and, ih, List.all_cons]
def words1 : List Jvm.Cond := Jvm.Cond.code x code maxLocals ret :: tables_1
/-- a 'code' word, met by the world's own term for the bytes: nothing is compared byte by byte -/
theorem code_word {y : MethodName} {bytes : ByteArray} {mx : Nat} {rt : Option FieldType} {a : Array Value} {s : State} {m : MethodId} {meth : Method} {c : Code} (h1 : s.methodNamed? y = some m) (h2 : s.vm.method? m = some meth) (h3 : meth.code = some c) (h4 : c.code = bytes)
    (h5 : (c.maxLocals == mx && c.exceptionTable.isEmpty && decide (c.maxStack ≤ mostOperands) && decide (meth.sig.returnType = rt) && !meth.locks && decide (parseMethodDescriptor y.desc = some meth.sig)) = true) : (Jvm.Cond.code y bytes mx rt).before a s = true := by
  simp only [Bool.and_eq_true, beq_iff_eq, Bool.not_eq_true', decide_eq_true_eq] at h5
  obtain ⟨⟨⟨⟨⟨g1, g2⟩, g3⟩, g4⟩, g5⟩, g6⟩ := h5
  simp [Cond.before, Cond.holds, Cond.value, h1, h2, h3, h4, g1, g2, g3, g4, g5, g6]
def isCode : Jvm.Cond → Bool
  | .code _ _ _ _ => true
  | _ => false
theorem all_split {L : List Jvm.Cond} {P : Jvm.Cond → Bool} (h1 : L.all (fun c => isCode c || P c) = true) (h2 : ∀ c ∈ L.filter isCode, P c = true) : L.all P = true := by
  refine List.all_eq_true.mpr fun c hc => ?_
  have h := List.all_eq_true.mp h1 c hc
  rcases Bool.eq_false_or_eq_true (isCode c) with hi | hi
  · exact h2 c (List.mem_filter.mpr ⟨hc, hi⟩)
  · simpa [hi] using h
set_option maxRecDepth 65536 in
theorem w_c0 : (Jvm.Cond.code x code maxLocals ret).before args0 about1 = true := code_word (m := ⟨1, 1⟩) (meth := k1m1) (c := k1c1) (by decide +kernel) rfl rfl rfl (by decide +kernel)
set_option maxRecDepth 65536 in
theorem w_c1 : (Jvm.Cond.code ({ cls := "java/lang/Integer", name := "valueOf", desc := "(I)Ljava/lang/Integer;" } : Jvm.MethodName) jdk_33_method_22_code (1 : Nat) (Option.some (Jvm.ClassFile.FieldType.object "java/lang/Integer"))).before args0 about1 = true := code_word (m := ⟨7, 0⟩) (meth := k7m0) (c := k7c0) (by decide +kernel) rfl rfl rfl (by decide +kernel)
set_option maxRecDepth 65536 in
theorem w_c2 : (Jvm.Cond.code ({ cls := "com/example/framelatch/framelatch/Tree$Place", name := "<init>", desc := "(Ljava/lang/Object;)V" } : Jvm.MethodName) prog_62_method_1_code (2 : Nat) (Option.none : Option Jvm.ClassFile.FieldType)).before args0 about1 = true := code_word (m := ⟨9, 0⟩) (meth := k9m0) (c := k9c0) (by decide +kernel) rfl rfl rfl (by decide +kernel)
set_option maxRecDepth 65536 in
theorem w_c3 : (Jvm.Cond.code ({ cls := "java/lang/Object", name := "<init>", desc := "()V" } : Jvm.MethodName) object_method_1_code (1 : Nat) (Option.none : Option Jvm.ClassFile.FieldType)).before args0 about1 = true := code_word (m := ⟨0, 0⟩) (meth := k0m0) (c := k0c0) (by decide +kernel) rfl rfl rfl (by decide +kernel)
set_option maxRecDepth 65536 in
theorem w_c4 : (Jvm.Cond.code ({ cls := "com/example/framelatch/framelatch/Tree$Place", name := "hangUnder", desc := "(Lcom/example/framelatch/framelatch/Tree$Place;)V" } : Jvm.MethodName) prog_62_method_4_code (4 : Nat) (Option.none : Option Jvm.ClassFile.FieldType)).before args0 about1 = true := code_word (m := ⟨9, 2⟩) (meth := k9m2) (c := k9c2) (by decide +kernel) rfl rfl rfl (by decide +kernel)
set_option maxRecDepth 65536 in
theorem w_c5 : (Jvm.Cond.code ({ cls := "com/example/framelatch/framelatch/Tree$Place", name := "representative", desc := "()Lcom/example/framelatch/framelatch/Tree$Place;" } : Jvm.MethodName) prog_62_method_5_code (2 : Nat) (Option.some (Jvm.ClassFile.FieldType.object "com/example/framelatch/framelatch/Tree$Place"))).before args0 about1 = true := code_word (m := ⟨9, 3⟩) (meth := k9m3) (c := k9c3) (by decide +kernel) rfl rfl rfl (by decide +kernel)
set_option maxRecDepth 65536 in
theorem w_c6 : (Jvm.Cond.code ({ cls := "com/example/framelatch/framelatch/Tree$Place", name := "parent", desc := "()Ljava/lang/Object;" } : Jvm.MethodName) prog_62_method_2_code (1 : Nat) (Option.some (Jvm.ClassFile.FieldType.object "java/lang/Object"))).before args0 about1 = true := code_word (m := ⟨9, 1⟩) (meth := k9m1) (c := k9c1) (by decide +kernel) rfl rfl rfl (by decide +kernel)
set_option maxRecDepth 65536 in
theorem w_c7 : (Jvm.Cond.code ({ cls := "java/lang/Integer", name := "<init>", desc := "(I)V" } : Jvm.MethodName) jdk_33_method_23_code (2 : Nat) (Option.none : Option Jvm.ClassFile.FieldType)).before args0 about1 = true := code_word (m := ⟨7, 1⟩) (meth := k7m1) (c := k7c1) (by decide +kernel) rfl rfl rfl (by decide +kernel)
set_option maxRecDepth 65536 in
theorem w_c8 : (Jvm.Cond.code ({ cls := "java/lang/Number", name := "<init>", desc := "()V" } : Jvm.MethodName) jdk_18_method_1_code (1 : Nat) (Option.none : Option Jvm.ClassFile.FieldType)).before args0 about1 = true := code_word (m := ⟨3, 0⟩) (meth := k3m0) (c := k3c0) (by decide +kernel) rfl rfl rfl (by decide +kernel)
def codes1 : List Jvm.Cond := [Jvm.Cond.code x code maxLocals ret, Jvm.Cond.code ({ cls := "java/lang/Integer", name := "valueOf", desc := "(I)Ljava/lang/Integer;" } : Jvm.MethodName) jdk_33_method_22_code (1 : Nat) (Option.some (Jvm.ClassFile.FieldType.object "java/lang/Integer")), Jvm.Cond.code ({ cls := "com/example/framelatch/framelatch/Tree$Place", name := "<init>", desc := "(Ljava/lang/Object;)V" } : Jvm.MethodName) prog_62_method_1_code (2 : Nat) (Option.none : Option Jvm.ClassFile.FieldType), Jvm.Cond.code ({ cls := "java/lang/Object", name := "<init>", desc := "()V" } : Jvm.MethodName) object_method_1_code (1 : Nat) (Option.none : Option Jvm.ClassFile.FieldType), Jvm.Cond.code ({ cls := "com/example/framelatch/framelatch/Tree$Place", name := "hangUnder", desc := "(Lcom/example/framelatch/framelatch/Tree$Place;)V" } : Jvm.MethodName) prog_62_method_4_code (4 : Nat) (Option.none : Option Jvm.ClassFile.FieldType), Jvm.Cond.code ({ cls := "com/example/framelatch/framelatch/Tree$Place", name := "representative", desc := "()Lcom/example/framelatch/framelatch/Tree$Place;" } : Jvm.MethodName) prog_62_method_5_code (2 : Nat) (Option.some (Jvm.ClassFile.FieldType.object "com/example/framelatch/framelatch/Tree$Place")), Jvm.Cond.code ({ cls := "com/example/framelatch/framelatch/Tree$Place", name := "parent", desc := "()Ljava/lang/Object;" } : Jvm.MethodName) prog_62_method_2_code (1 : Nat) (Option.some (Jvm.ClassFile.FieldType.object "java/lang/Object")), Jvm.Cond.code ({ cls := "java/lang/Integer", name := "<init>", desc := "(I)V" } : Jvm.MethodName) jdk_33_method_23_code (2 : Nat) (Option.none : Option Jvm.ClassFile.FieldType), Jvm.Cond.code ({ cls := "java/lang/Number", name := "<init>", desc := "()V" } : Jvm.MethodName) jdk_18_method_1_code (1 : Nat) (Option.none : Option Jvm.ClassFile.FieldType)]
set_option maxRecDepth 65536 in
theorem codes_eq : words1.filter isCode = codes1 := rfl
theorem w_codes : ∀ c ∈ words1.filter isCode, c.before args0 about1 = true := by
  rw [codes_eq]
  intro c hc
  simp only [codes1, List.mem_cons, List.not_mem_nil, or_false] at hc
  rcases hc with rfl | rfl | rfl | rfl | rfl | rfl | rfl | rfl | rfl
  · exact w_c0
  · exact w_c1
  · exact w_c2
  · exact w_c3
  · exact w_c4
  · exact w_c5
  · exact w_c6
  · exact w_c7
  · exact w_c8
set_option maxRecDepth 65536 in
theorem w_t1 : (words1.take 24).all (fun c => isCode c || c.before args0 about1) = true := by decide +kernel
set_option maxRecDepth 65536 in
theorem w_t2 : ((words1.drop 24).take 24).all (fun c => isCode c || c.before args0 about1) = true := by decide +kernel
set_option maxRecDepth 65536 in
theorem w_t3 : ((words1.drop 24).drop 24).all (fun c => isCode c || c.before args0 about1) = true := by decide +kernel
theorem w_tables : (allAtoms (Jvm.Cond.code x code maxLocals ret :: tables_1)).before args0 about1 = true := by
  rw [allAtoms_all]
  show words1.all (fun c => c.before args0 about1) = true
  refine all_split ?_ w_codes
  rw [← List.take_append_drop 24 words1, List.all_append, w_t1, ← List.take_append_drop 24 (words1.drop 24), List.all_append, w_t2, w_t3]
  rfl
set_option maxRecDepth 65536 in
theorem w_rest : rest_1_c.before args0 about1 = true := by decide +kernel
set_option maxRecDepth 65536 in
theorem w_case : (Jvm.Cond.and given_1 narrow_1).before args0 about1 = true := by decide +kernel
theorem w_applies : (headSpec (Jvm.Cond.code x code maxLocals ret :: tables_1) room_1).applies x e0.platform about1 = true :=
  (Spec.applies_iff w_frames).mpr ⟨w_running, w_runnable, w_alone, w_named, w_hears, w_ripe, w_room, w_tables⟩
theorem atStart : AtStart classFile x code maxLocals ret World_1 tables_1 room_1 Calls_1 rest_1 Pre_1 launch0 p0 e0 about1 theMethod args0 below0 :=
  ⟨lists_1, trivial, launch0.admits_env _ _ _, launch0.least_env, fairChoices_fair.cas, fairChoices_fair.clock, w_frames, w_args, w_heap, w_applies, trivial, w_rest, w_case⟩
end start1
theorem witness_1 : WitnessClaimed_1 := ⟨start1.p0, start1.e0, start1.about1, start1.theMethod, start1.args0, start1.below0, start1.atStart⟩
end Jvm.Pilot.@@N@@
